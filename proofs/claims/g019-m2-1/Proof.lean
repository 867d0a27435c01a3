import JvmDerived
import JvmDerived.Pilot.@@N@@Statement
import JvmDerived.Pilot.@@N@@Code
set_option linter.unusedVariables false
set_option linter.unusedSimpArgs false
namespace Jvm.Pilot.@@N@@
open Jvm Jvm.ClassFile Sem Op Lib Jvm.Free Jvm.Stand Jvm.LawKit Jvm.RoadKit Bundle Jvm.Pilot.@@N@@.Jvm.D
/-! THE WALK, SAID FORWARD: `G w Q h k n pc Ls st` says: from every point of the walk `w` whose heap is h, with k cells and n slots made, standing at pc with the locals Ls and the stack st, the run ends in a return that meets Q. One law a step carries G from the next point back to this one. -/
abbrev Wk := Program × Launch × Env × Room × State × MethodId × Array Value × List Frame × Method × Code × Nat
abbrev Wk.p (w : Wk) : Program := w.1
abbrev Wk.l (w : Wk) : Launch := w.2.1
abbrev Wk.e (w : Wk) : Env := w.2.2.1
abbrev Wk.R (w : Wk) : Room := w.2.2.2.1
abbrev Wk.s (w : Wk) : State := w.2.2.2.2.1
abbrev Wk.m (w : Wk) : MethodId := w.2.2.2.2.2.1
abbrev Wk.args (w : Wk) : Array Value := w.2.2.2.2.2.2.1
abbrev Wk.below (w : Wk) : List Frame := w.2.2.2.2.2.2.2.1
abbrev Wk.meth (w : Wk) : Method := w.2.2.2.2.2.2.2.2.1
abbrev Wk.c (w : Wk) : Code := w.2.2.2.2.2.2.2.2.2.1
abbrev Wk.n0 (w : Wk) : Nat := w.2.2.2.2.2.2.2.2.2.2
def Cx (w : Wk) (l : Launch) (Z : State) (own : String) (bytes : ByteArray) (mx : Nat) (rt : Option FieldType) (nm : String) (rm : Room) (n0 : Nat) : Prop :=
  w.l = l ∧ w.p.tables.exec = Jvm.exec ∧ Z.Warmed39 w.s.vm ∧ w.c.code = bytes ∧ w.c.maxLocals = mx ∧ w.s.vm.findClass own = some w.m.cls ∧ w.meth.sig.returnType = rt ∧ w.meth.locks = false ∧ w.meth.name = nm ∧ w.R = rm ∧ w.n0 = n0
def Ends (w : Wk) (Q : Option Value → Heap → Prop) (A : State) : Prop :=
  ∃ s₂ o, Steps w.p.tables w.e w.below A s₂ ∧ s₂.status = .running ∧ Ended s₂ w.below o ∧ ∃ v L, o = .returned v ∧ (Q v s₂.heap ∧ Fr w.n0 L) ∧ FrameEnd w.s o s₂ L w.R.cells w.R.slots
def G (w : Wk) (Q : Option Value → Heap → Prop) (h : Heap) (k n pc : Nat) (Ls : Array Slot) (st : List Value) : Prop :=
  ∀ (T : State) (locs : List Loc), Stand w.p w.l w.e w.R w.s w.m w.args w.below w.meth w.c T locs k n → T.heap = h → Fr w.n0 locs → Ends w Q (T.setTop (mkF w.m pc Ls st))
def Con (l : Launch) (Z : State) (y : MethodName) (bytes : ByteArray) (mx : Nat) (rt : Option FieldType) (rm : Room) (as : Array Value) (h : Heap) (n0 : Nat) (Q : Option Value → Heap → Prop) : Prop :=
  ∀ ws, MetFree l y (head1 (Jvm.Cond.code y bytes mx rt :: ws) rm) (fun a U => a = as ∧ Z.Warmed39 U.vm ∧ U.heap = h) (fun _ _ _ _ _ => True) (fun _ U o U' => ∃ v L, o = .returned v ∧ (Q v U'.heap ∧ Fr n0 L) ∧ FrameEnd U o U' L rm.cells rm.slots)
def psh (v : Option Value) (st : List Value) : List Value := match v with | none => st | some x => x :: st
theorem psh_eq (v : Option Value) (st : List Value) : v.toList ++ st = psh v st := by cases v <;> rfl
section Gs
variable {w : Wk} {l : Launch} {Z : State} {own : String} {bytes : ByteArray} {mx : Nat} {rt : Option FieldType} {nm : String} {rm : Room} {n0 : Nat} {Q : Option Value → Heap → Prop} {h : Heap} {k n pc pc' : Nat} {Ls Ls' : Array Slot} {st rest : List Value} {a0 : Array Value} {t : FieldType} {k' n' : Nat}
theorem Con.mk {y : MethodName} {as : Array Value} (hp : plainFor y = true) (hef : ∀ m, entryFrame m as mx = mkF m 0 Ls []) (body : ∀ w : Wk, Cx w l Z y.cls bytes mx rt y.name rm n0 → G w Q h 0 0 0 Ls []) : Con l Z y bytes mx rt rm as h n0 Q := by
  intro ws
  refine MetFree.of_bodySF hp hisR ?_
  intro p e s m args below meth c s₁ Bd hml0 hP hK
  obtain ⟨rfl, hZ, hh⟩ := hP
  have X0 : Stand p l e rm s m args below meth c s₁ [] 0 0 := Stand.of_body Bd
  have e0 : s₁.heap = h := by rw [← hh, Bd.state]; rfl
  obtain ⟨s₂, o, h1, h2, h3, h4⟩ := body (p, l, e, rm, s, m, args, below, meth, c, n0) ⟨rfl, Bd.exec, hZ, Bd.bytes, hml0, findClass_of_methodNamed Bd.named, Bd.returns, Bd.notSynchronized, (name_of_methodNamed Bd.named Bd.method).1, rfl, rfl⟩ s₁ [] X0 e0 (Fr.nil n0)
  exact ⟨s₂, o, castTop (hef m) h1, h2, h3, h4⟩
theorem Cx.ex (C : Cx w l Z own bytes mx rt nm rm n0) : w.p.tables.exec = Jvm.exec := C.2.1
theorem Cx.hZ (C : Cx w l Z own bytes mx rt nm rm n0) : Z.Warmed39 w.s.vm := C.2.2.1
theorem Cx.dec (C : Cx w l Z own bytes mx rt nm rm n0) {r : Except DecodeError (Instr × Nat)} (hd : decode bytes pc = r) : decode w.c.code pc = r := hb C.2.2.2.1 hd
theorem Cx.ow (C : Cx w l Z own bytes mx rt nm rm n0) : w.s.vm.findClass own = some w.m.cls := C.2.2.2.2.2.1
theorem Cx.ml (C : Cx w l Z own bytes mx rt nm rm n0) : w.c.maxLocals = mx := C.2.2.2.2.1
theorem Cx.ret (C : Cx w l Z own bytes mx rt nm rm n0) : w.meth.sig.returnType = rt := C.2.2.2.2.2.2.1
theorem Cx.lk (C : Cx w l Z own bytes mx rt nm rm n0) : w.meth.locks = false := C.2.2.2.2.2.2.2.1
theorem Cx.mn (C : Cx w l Z own bytes mx rt nm rm n0) : w.meth.name = nm := C.2.2.2.2.2.2.2.2.1
theorem Cx.ro (C : Cx w l Z own bytes mx rt nm rm n0) : w.R = rm := C.2.2.2.2.2.2.2.2.2.1
theorem Cx.nn (C : Cx w l Z own bytes mx rt nm rm n0) : w.n0 = n0 := C.2.2.2.2.2.2.2.2.2.2
theorem G.adv (st' : ∀ T locs, Stand w.p w.l w.e w.R w.s w.m w.args w.below w.meth w.c T locs k n → T.heap = h → ∀ t, Steps w.p.tables w.e w.below (T.setTop (mkF w.m pc' Ls' rest)) t → Steps w.p.tables w.e w.below (T.setTop (mkF w.m pc Ls st)) t) (g : G w Q h k n pc' Ls' rest) : G w Q h k n pc Ls st :=
  fun T locs X eT N => let ⟨s₂, o, h1, h2⟩ := g T locs X eT N; ⟨s₂, o, st' T locs X eT _ h1, h2⟩
theorem G.to {T T' : State} {locs' : List Loc} {h' : Heap} {k' n' : Nat} (X' : Stand w.p w.l w.e w.R w.s w.m w.args w.below w.meth w.c T' locs' k' n') (eT : T'.heap = h') (N : Fr w.n0 locs') (s' : ∀ t, Steps w.p.tables w.e w.below (T'.setTop (mkF w.m pc' Ls' rest)) t → Steps w.p.tables w.e w.below (T.setTop (mkF w.m pc Ls st)) t) (g : G w Q h' k' n' pc' Ls' rest) : Ends w Q (T.setTop (mkF w.m pc Ls st)) :=
  let ⟨s₂, o, h1, h2⟩ := g T' locs' X' eT N; ⟨s₂, o, s' _ h1, h2⟩
theorem G.more (hk : k ≤ k') (hn : n ≤ n') (g : G w Q h k' n' pc Ls st) : G w Q h k n pc Ls st := fun T locs X eT N => g T locs (X.more hk hn) eT N
/-! plain steps -/
theorem g_aloadN (C : Cx w l Z own bytes mx rt nm rm n0) {i : Fin 4} {v : Value} (hd : decode bytes pc = .ok (.aload_n i, 1)) (hl : Ls[i.val]? = some (.val v)) (hv : v.isRef = true) (hp : pc + 1 = pc') (g : G w Q h k n pc' Ls (v :: st)) : G w Q h k n pc Ls st := by
  subst hp; exact g.adv fun T locs X _ t r => XS.aloadN X.here C.ex rfl (C.dec hd) hl hv r
theorem g_aload (C : Cx w l Z own bytes mx rt nm rm n0) {i : Nat} {v : Value} (hd : decode bytes pc = .ok (.aload i, 2)) (hl : Ls[i]? = some (.val v)) (hv : v.isRef = true) (hp : pc + 2 = pc') (g : G w Q h k n pc' Ls (v :: st)) : G w Q h k n pc Ls st := by
  subst hp; exact g.adv fun T locs X _ t r => XS.aload X.here C.ex rfl (C.dec hd) hl hv r
theorem g_iloadN (C : Cx w l Z own bytes mx rt nm rm n0) {i : Fin 4} {v : Int32} (hd : decode bytes pc = .ok (.iload_n i, 1)) (hl : Ls[i.val]? = some (.val (.int v))) (hp : pc + 1 = pc') (g : G w Q h k n pc' Ls (.int v :: st)) : G w Q h k n pc Ls st := by
  subst hp; exact g.adv fun T locs X _ t r => XS.iloadN X.here C.ex rfl (C.dec hd) hl r
theorem g_iload (C : Cx w l Z own bytes mx rt nm rm n0) {i : Nat} {v : Int32} (hd : decode bytes pc = .ok (.iload i, 2)) (hl : Ls[i]? = some (.val (.int v))) (hp : pc + 2 = pc') (g : G w Q h k n pc' Ls (.int v :: st)) : G w Q h k n pc Ls st := by
  subst hp; exact g.adv fun T locs X _ t r => XS.iload X.here C.ex rfl (C.dec hd) hl r
theorem g_lloadN (C : Cx w l Z own bytes mx rt nm rm n0) {i : Fin 4} {v : Int64} (hd : decode bytes pc = .ok (.lload_n i, 1)) (hl : Ls[i.val]? = some (.val (.long v))) (hp : pc + 1 = pc') (g : G w Q h k n pc' Ls (.long v :: st)) : G w Q h k n pc Ls st := by
  subst hp; exact g.adv fun T locs X _ t r => XS.lloadN X.here C.ex rfl (C.dec hd) hl r
theorem g_lload (C : Cx w l Z own bytes mx rt nm rm n0) {i : Nat} {v : Int64} (hd : decode bytes pc = .ok (.lload i, 2)) (hl : Ls[i]? = some (.val (.long v))) (hp : pc + 2 = pc') (g : G w Q h k n pc' Ls (.long v :: st)) : G w Q h k n pc Ls st := by
  subst hp; exact g.adv fun T locs X _ t r => XS.lload X.here C.ex rfl (C.dec hd) hl r
theorem g_istoreN (C : Cx w l Z own bytes mx rt nm rm n0) {i : Fin 4} {x : Int32} (hd : decode bytes pc = .ok (.istore_n i, 1)) (hs : st = .int x :: rest) (hl : storeLocals Ls i.val (.int x) = some Ls') (hp : pc + 1 = pc') (g : G w Q h k n pc' Ls' rest) : G w Q h k n pc Ls st := by
  subst hp; exact g.adv fun T locs X _ t r => XS.istoreN X.here C.ex rfl (C.dec hd) hs hl r
theorem g_istore (C : Cx w l Z own bytes mx rt nm rm n0) {i : Nat} {x : Int32} (hd : decode bytes pc = .ok (.istore i, 2)) (hs : st = .int x :: rest) (hl : storeLocals Ls i (.int x) = some Ls') (hp : pc + 2 = pc') (g : G w Q h k n pc' Ls' rest) : G w Q h k n pc Ls st := by
  subst hp; exact g.adv fun T locs X _ t r => XS.istore X.here C.ex rfl (C.dec hd) hs hl r
theorem g_lstoreN (C : Cx w l Z own bytes mx rt nm rm n0) {i : Fin 4} {x : Int64} (hd : decode bytes pc = .ok (.lstore_n i, 1)) (hs : st = .long x :: rest) (hl : storeLocals Ls i.val (.long x) = some Ls') (hp : pc + 1 = pc') (g : G w Q h k n pc' Ls' rest) : G w Q h k n pc Ls st := by
  subst hp; exact g.adv fun T locs X _ t r => XS.lstoreN X.here C.ex rfl (C.dec hd) hs hl r
theorem g_lstore (C : Cx w l Z own bytes mx rt nm rm n0) {i : Nat} {x : Int64} (hd : decode bytes pc = .ok (.lstore i, 2)) (hs : st = .long x :: rest) (hl : storeLocals Ls i (.long x) = some Ls') (hp : pc + 2 = pc') (g : G w Q h k n pc' Ls' rest) : G w Q h k n pc Ls st := by
  subst hp; exact g.adv fun T locs X _ t r => XS.lstore X.here C.ex rfl (C.dec hd) hs hl r
theorem g_astoreN (C : Cx w l Z own bytes mx rt nm rm n0) {i : Fin 4} {x : Value} (hd : decode bytes pc = .ok (.astore_n i, 1)) (hs : st = x :: rest) (hv : x.isRef = true) (hl : storeLocals Ls i.val x = some Ls') (hp : pc + 1 = pc') (g : G w Q h k n pc' Ls' rest) : G w Q h k n pc Ls st := by
  subst hp; exact g.adv fun T locs X _ t r => XS.astoreN X.here C.ex rfl (C.dec hd) hs hv hl r
theorem g_astore (C : Cx w l Z own bytes mx rt nm rm n0) {i : Nat} {x : Value} (hd : decode bytes pc = .ok (.astore i, 2)) (hs : st = x :: rest) (hv : x.isRef = true) (hl : storeLocals Ls i x = some Ls') (hp : pc + 2 = pc') (g : G w Q h k n pc' Ls' rest) : G w Q h k n pc Ls st := by
  subst hp; exact g.adv fun T locs X _ t r => XS.astore X.here C.ex rfl (C.dec hd) hs hv hl r
theorem g_iinc (C : Cx w l Z own bytes mx rt nm rm n0) {i : Nat} {cst : Int} {x : Int32} (hd : decode bytes pc = .ok (.iinc i cst, 3)) (hl : Ls[i]? = some (.val (.int x))) (hl' : storeLocals Ls i (.int (x + Int32.ofInt cst)) = some Ls') (hp : pc + 3 = pc') (g : G w Q h k n pc' Ls' st) : G w Q h k n pc Ls st := by
  subst hp; exact g.adv fun T locs X _ t r => XS.iinc X.here C.ex rfl (C.dec hd) hl hl' r
theorem g_iconst (C : Cx w l Z own bytes mx rt nm rm n0) {i : Int} {v : Int32} (hd : decode bytes pc = .ok (.iconst i, 1)) (hv : Int32.ofInt i = v) (hp : pc + 1 = pc') (g : G w Q h k n pc' Ls (.int v :: st)) : G w Q h k n pc Ls st := by
  subst hp hv; exact g.adv fun T locs X _ t r => XS.iconst X.here C.ex rfl (C.dec hd) r
theorem g_bipush (C : Cx w l Z own bytes mx rt nm rm n0) {i : Int} {v : Int32} (hd : decode bytes pc = .ok (.bipush i, 2)) (hv : (Int8.ofInt i).toInt32 = v) (hp : pc + 2 = pc') (g : G w Q h k n pc' Ls (.int v :: st)) : G w Q h k n pc Ls st := by
  subst hp hv; exact g.adv fun T locs X _ t r => XS.bipush X.here C.ex rfl (C.dec hd) r
theorem g_sipush (C : Cx w l Z own bytes mx rt nm rm n0) {i : Int} {v : Int32} (hd : decode bytes pc = .ok (.sipush i, 3)) (hv : (Int16.ofInt i).toInt32 = v) (hp : pc + 3 = pc') (g : G w Q h k n pc' Ls (.int v :: st)) : G w Q h k n pc Ls st := by
  subst hp hv; exact g.adv fun T locs X _ t r => XS.sipush X.here C.ex rfl (C.dec hd) r
theorem g_lconst (C : Cx w l Z own bytes mx rt nm rm n0) {i : Fin 2} {v : Int64} (hd : decode bytes pc = .ok (.lconst i, 1)) (hv : Int64.ofNat i.val = v) (hp : pc + 1 = pc') (g : G w Q h k n pc' Ls (.long v :: st)) : G w Q h k n pc Ls st := by
  subst hp hv; exact g.adv fun T locs X _ t r => XS.lconst X.here C.ex rfl (C.dec hd) r
theorem g_aconstNull (C : Cx w l Z own bytes mx rt nm rm n0) (hd : decode bytes pc = .ok (.aconst_null, 1)) (hp : pc + 1 = pc') (g : G w Q h k n pc' Ls (.null :: st)) : G w Q h k n pc Ls st := by
  subst hp; exact g.adv fun T locs X _ t r => XS.aconstNull X.here C.ex rfl (C.dec hd) r
theorem g_ldcInt (C : Cx w l Z own bytes mx rt nm rm n0) {i : Nat} {v : Int32} (hw : (Jvm.Cond.constant own i v).before a0 Z = true) (hd : decode bytes pc = .ok (.ldc i, 2)) (hp : pc + 2 = pc') (g : G w Q h k n pc' Ls (.int v :: st)) : G w Q h k n pc Ls st := by
  subst hp; exact g.adv fun T locs X _ t r => X.ldcInt C.ex C.ow (mvT C.hZ hw) (g := mkF w.m pc Ls st) rfl (C.dec hd) t r
theorem g_ldc2Long (C : Cx w l Z own bytes mx rt nm rm n0) {i : Nat} {v : Int64} (hw : (Jvm.Cond.constantLong own i v).before a0 Z = true) (hd : decode bytes pc = .ok (.ldc2_w i, 3)) (hp : pc + 3 = pc') (g : G w Q h k n pc' Ls (.long v :: st)) : G w Q h k n pc Ls st := by
  subst hp; exact g.adv fun T locs X _ t r => X.ldc2Long C.ex C.ow (mvT C.hZ hw) (g := mkF w.m pc Ls st) rfl (C.dec hd) t r
theorem g_iadd (C : Cx w l Z own bytes mx rt nm rm n0) {x y : Int32} (hd : decode bytes pc = .ok (.iadd, 1)) (hs : st = .int y :: .int x :: rest) (hp : pc + 1 = pc') (g : G w Q h k n pc' Ls (.int (x + y) :: rest)) : G w Q h k n pc Ls st := by
  subst hp; exact g.adv fun T locs X _ t r => XS.iadd X.here C.ex rfl (C.dec hd) hs r
theorem g_isub (C : Cx w l Z own bytes mx rt nm rm n0) {x y : Int32} (hd : decode bytes pc = .ok (.isub, 1)) (hs : st = .int y :: .int x :: rest) (hp : pc + 1 = pc') (g : G w Q h k n pc' Ls (.int (x - y) :: rest)) : G w Q h k n pc Ls st := by
  subst hp; exact g.adv fun T locs X _ t r => XS.isub X.here C.ex rfl (C.dec hd) hs r
theorem g_imul (C : Cx w l Z own bytes mx rt nm rm n0) {x y : Int32} (hd : decode bytes pc = .ok (.imul, 1)) (hs : st = .int y :: .int x :: rest) (hp : pc + 1 = pc') (g : G w Q h k n pc' Ls (.int (x * y) :: rest)) : G w Q h k n pc Ls st := by
  subst hp; exact g.adv fun T locs X _ t r => XS.imul X.here C.ex rfl (C.dec hd) hs r
theorem g_iand (C : Cx w l Z own bytes mx rt nm rm n0) {x y : Int32} (hd : decode bytes pc = .ok (.iand, 1)) (hs : st = .int y :: .int x :: rest) (hp : pc + 1 = pc') (g : G w Q h k n pc' Ls (.int (x &&& y) :: rest)) : G w Q h k n pc Ls st := by
  subst hp; exact g.adv fun T locs X _ t r => XS.iand X.here C.ex rfl (C.dec hd) hs r
theorem g_ior (C : Cx w l Z own bytes mx rt nm rm n0) {x y : Int32} (hd : decode bytes pc = .ok (.ior, 1)) (hs : st = .int y :: .int x :: rest) (hp : pc + 1 = pc') (g : G w Q h k n pc' Ls (.int (x ||| y) :: rest)) : G w Q h k n pc Ls st := by
  subst hp; exact g.adv fun T locs X _ t r => XS.ior X.here C.ex rfl (C.dec hd) hs r
theorem g_ixor (C : Cx w l Z own bytes mx rt nm rm n0) {x y : Int32} (hd : decode bytes pc = .ok (.ixor, 1)) (hs : st = .int y :: .int x :: rest) (hp : pc + 1 = pc') (g : G w Q h k n pc' Ls (.int (x ^^^ y) :: rest)) : G w Q h k n pc Ls st := by
  subst hp; exact g.adv fun T locs X _ t r => XS.ixor X.here C.ex rfl (C.dec hd) hs r
theorem g_ladd (C : Cx w l Z own bytes mx rt nm rm n0) {x y : Int64} (hd : decode bytes pc = .ok (.ladd, 1)) (hs : st = .long y :: .long x :: rest) (hp : pc + 1 = pc') (g : G w Q h k n pc' Ls (.long (x + y) :: rest)) : G w Q h k n pc Ls st := by
  subst hp; exact g.adv fun T locs X _ t r => XS.ladd X.here C.ex rfl (C.dec hd) hs r
theorem g_lsub (C : Cx w l Z own bytes mx rt nm rm n0) {x y : Int64} (hd : decode bytes pc = .ok (.lsub, 1)) (hs : st = .long y :: .long x :: rest) (hp : pc + 1 = pc') (g : G w Q h k n pc' Ls (.long (x - y) :: rest)) : G w Q h k n pc Ls st := by
  subst hp; exact g.adv fun T locs X _ t r => XS.lsub X.here C.ex rfl (C.dec hd) hs r
theorem g_lmul (C : Cx w l Z own bytes mx rt nm rm n0) {x y : Int64} (hd : decode bytes pc = .ok (.lmul, 1)) (hs : st = .long y :: .long x :: rest) (hp : pc + 1 = pc') (g : G w Q h k n pc' Ls (.long (x * y) :: rest)) : G w Q h k n pc Ls st := by
  subst hp; exact g.adv fun T locs X _ t r => XS.lmul X.here C.ex rfl (C.dec hd) hs r
theorem g_land (C : Cx w l Z own bytes mx rt nm rm n0) {x y : Int64} (hd : decode bytes pc = .ok (.land, 1)) (hs : st = .long y :: .long x :: rest) (hp : pc + 1 = pc') (g : G w Q h k n pc' Ls (.long (x &&& y) :: rest)) : G w Q h k n pc Ls st := by
  subst hp; exact g.adv fun T locs X _ t r => XS.land X.here C.ex rfl (C.dec hd) hs r
theorem g_lor (C : Cx w l Z own bytes mx rt nm rm n0) {x y : Int64} (hd : decode bytes pc = .ok (.lor, 1)) (hs : st = .long y :: .long x :: rest) (hp : pc + 1 = pc') (g : G w Q h k n pc' Ls (.long (x ||| y) :: rest)) : G w Q h k n pc Ls st := by
  subst hp; exact g.adv fun T locs X _ t r => XS.lor X.here C.ex rfl (C.dec hd) hs r
theorem g_lxor (C : Cx w l Z own bytes mx rt nm rm n0) {x y : Int64} (hd : decode bytes pc = .ok (.lxor, 1)) (hs : st = .long y :: .long x :: rest) (hp : pc + 1 = pc') (g : G w Q h k n pc' Ls (.long (x ^^^ y) :: rest)) : G w Q h k n pc Ls st := by
  subst hp; exact g.adv fun T locs X _ t r => XS.lxor X.here C.ex rfl (C.dec hd) hs r
theorem g_ishl (C : Cx w l Z own bytes mx rt nm rm n0) {x y : Int32} (hd : decode bytes pc = .ok (.ishl, 1)) (hs : st = .int y :: .int x :: rest) (hp : pc + 1 = pc') (g : G w Q h k n pc' Ls (.int (x <<< (y &&& 31)) :: rest)) : G w Q h k n pc Ls st := by
  subst hp; exact g.adv fun T locs X _ t r => XS.ishl X.here C.ex rfl (C.dec hd) hs r
theorem g_ishr (C : Cx w l Z own bytes mx rt nm rm n0) {x y : Int32} (hd : decode bytes pc = .ok (.ishr, 1)) (hs : st = .int y :: .int x :: rest) (hp : pc + 1 = pc') (g : G w Q h k n pc' Ls (.int (x >>> (y &&& 31)) :: rest)) : G w Q h k n pc Ls st := by
  subst hp; exact g.adv fun T locs X _ t r => XS.ishr X.here C.ex rfl (C.dec hd) hs r
theorem g_iushr (C : Cx w l Z own bytes mx rt nm rm n0) {x y : Int32} (hd : decode bytes pc = .ok (.iushr, 1)) (hs : st = .int y :: .int x :: rest) (hp : pc + 1 = pc') (g : G w Q h k n pc' Ls (.int ((x.toUInt32 >>> (y &&& 31).toUInt32).toInt32) :: rest)) : G w Q h k n pc Ls st := by
  subst hp; exact g.adv fun T locs X _ t r => XS.iushr X.here C.ex rfl (C.dec hd) hs r
theorem g_ineg (C : Cx w l Z own bytes mx rt nm rm n0) {x : Int32} (hd : decode bytes pc = .ok (.ineg, 1)) (hs : st = .int x :: rest) (hp : pc + 1 = pc') (g : G w Q h k n pc' Ls (.int (-x) :: rest)) : G w Q h k n pc Ls st := by
  subst hp; exact g.adv fun T locs X _ t r => XS.ineg X.here C.ex rfl (C.dec hd) hs r
theorem g_lneg (C : Cx w l Z own bytes mx rt nm rm n0) {x : Int64} (hd : decode bytes pc = .ok (.lneg, 1)) (hs : st = .long x :: rest) (hp : pc + 1 = pc') (g : G w Q h k n pc' Ls (.long (-x) :: rest)) : G w Q h k n pc Ls st := by
  subst hp; exact g.adv fun T locs X _ t r => XS.lneg X.here C.ex rfl (C.dec hd) hs r
theorem g_i2l (C : Cx w l Z own bytes mx rt nm rm n0) {x : Int32} (hd : decode bytes pc = .ok (.i2l, 1)) (hs : st = .int x :: rest) (hp : pc + 1 = pc') (g : G w Q h k n pc' Ls (.long x.toInt64 :: rest)) : G w Q h k n pc Ls st := by
  subst hp; exact g.adv fun T locs X _ t r => XS.i2l X.here C.ex rfl (C.dec hd) hs r
theorem g_l2i (C : Cx w l Z own bytes mx rt nm rm n0) {x : Int64} (hd : decode bytes pc = .ok (.l2i, 1)) (hs : st = .long x :: rest) (hp : pc + 1 = pc') (g : G w Q h k n pc' Ls (.int x.toInt32 :: rest)) : G w Q h k n pc Ls st := by
  subst hp; exact g.adv fun T locs X _ t r => XS.l2i X.here C.ex rfl (C.dec hd) hs r
theorem g_i2b (C : Cx w l Z own bytes mx rt nm rm n0) {x : Int32} (hd : decode bytes pc = .ok (.i2b, 1)) (hs : st = .int x :: rest) (hp : pc + 1 = pc') (g : G w Q h k n pc' Ls (.int x.toInt8.toInt32 :: rest)) : G w Q h k n pc Ls st := by
  subst hp; exact g.adv fun T locs X _ t r => XS.i2b X.here C.ex rfl (C.dec hd) hs r
theorem g_i2s (C : Cx w l Z own bytes mx rt nm rm n0) {x : Int32} (hd : decode bytes pc = .ok (.i2s, 1)) (hs : st = .int x :: rest) (hp : pc + 1 = pc') (g : G w Q h k n pc' Ls (.int x.toInt16.toInt32 :: rest)) : G w Q h k n pc Ls st := by
  subst hp; exact g.adv fun T locs X _ t r => XS.i2s X.here C.ex rfl (C.dec hd) hs r
theorem g_i2c (C : Cx w l Z own bytes mx rt nm rm n0) {x : Int32} (hd : decode bytes pc = .ok (.i2c, 1)) (hs : st = .int x :: rest) (hp : pc + 1 = pc') (g : G w Q h k n pc' Ls (.int x.toUInt32.toUInt16.toUInt32.toInt32 :: rest)) : G w Q h k n pc Ls st := by
  subst hp; exact g.adv fun T locs X _ t r => XS.i2c X.here C.ex rfl (C.dec hd) hs r
theorem g_irem (C : Cx w l Z own bytes mx rt nm rm n0) {x y : Int32} (hd : decode bytes pc = .ok (.irem, 1)) (hs : st = .int y :: .int x :: rest) (hy : y ≠ 0) (hp : pc + 1 = pc') (g : G w Q h k n pc' Ls (.int (x % y) :: rest)) : G w Q h k n pc Ls st := by
  subst hp; exact g.adv fun T locs X _ t r => iremM (g := mkF w.m pc Ls st) X C.ex rfl (C.dec hd) hs hy r
theorem g_idiv (C : Cx w l Z own bytes mx rt nm rm n0) {x y : Int32} (hd : decode bytes pc = .ok (.idiv, 1)) (hs : st = .int y :: .int x :: rest) (hy : y ≠ 0) (hp : pc + 1 = pc') (g : G w Q h k n pc' Ls (.int (x / y) :: rest)) : G w Q h k n pc Ls st := by
  subst hp; exact g.adv fun T locs X _ t r => XS.idiv X.here C.ex rfl (C.dec hd) hs hy r
theorem g_ldiv (C : Cx w l Z own bytes mx rt nm rm n0) {x y : Int64} (hd : decode bytes pc = .ok (.ldiv, 1)) (hs : st = .long y :: .long x :: rest) (hy : y ≠ 0) (hp : pc + 1 = pc') (g : G w Q h k n pc' Ls (.long (x / y) :: rest)) : G w Q h k n pc Ls st := by
  subst hp; exact g.adv fun T locs X _ t r => XS.ldiv X.here C.ex rfl (C.dec hd) hs hy r
theorem g_lrem (C : Cx w l Z own bytes mx rt nm rm n0) {x y : Int64} (hd : decode bytes pc = .ok (.lrem, 1)) (hs : st = .long y :: .long x :: rest) (hy : y ≠ 0) (hp : pc + 1 = pc') (g : G w Q h k n pc' Ls (.long (x - (x / y) * y) :: rest)) : G w Q h k n pc Ls st := by
  subst hp; exact g.adv fun T locs X _ t r => XS.lrem X.here C.ex rfl (C.dec hd) hs hy r
theorem g_lcmp (C : Cx w l Z own bytes mx rt nm rm n0) {x y : Int64} (hd : decode bytes pc = .ok (.lcmp, 1)) (hs : st = .long y :: .long x :: rest) (hp : pc + 1 = pc') (g : G w Q h k n pc' Ls (.int (lcmpW x y) :: rest)) : G w Q h k n pc Ls st := by
  subst hp; exact g.adv fun T locs X _ t r => XS.lcmp X.here C.ex rfl (C.dec hd) hs r
theorem g_dup (C : Cx w l Z own bytes mx rt nm rm n0) {x : Value} (hd : decode bytes pc = .ok (.dup, 1)) (hs : st = x :: rest) (hc : x.category = 1) (hp : pc + 1 = pc') (g : G w Q h k n pc' Ls (x :: x :: rest)) : G w Q h k n pc Ls st := by
  subst hp; exact g.adv fun T locs X _ t r => XS.dup X.here C.ex rfl (C.dec hd) hs hc r
theorem g_pop (C : Cx w l Z own bytes mx rt nm rm n0) {x : Value} (hd : decode bytes pc = .ok (.pop, 1)) (hs : st = x :: rest) (hc : x.category = 1) (hp : pc + 1 = pc') (g : G w Q h k n pc' Ls rest) : G w Q h k n pc Ls st := by
  subst hp; exact g.adv fun T locs X _ t r => XS.pop X.here C.ex rfl (C.dec hd) hs hc r
theorem g_dup_x1 (C : Cx w l Z own bytes mx rt nm rm n0) {x y : Value} (hd : decode bytes pc = .ok (.dup_x1, 1)) (hs : st = x :: y :: rest) (hc : x.category = 1) (hc' : y.category = 1) (hp : pc + 1 = pc') (g : G w Q h k n pc' Ls (x :: y :: x :: rest)) : G w Q h k n pc Ls st := by
  subst hp; exact g.adv fun T locs X _ t r => XS.dupX1 X.here C.ex rfl (C.dec hd) hs hc hc' r
theorem g_dup2 (C : Cx w l Z own bytes mx rt nm rm n0) {x y : Value} (hd : decode bytes pc = .ok (.dup2, 1)) (hs : st = x :: y :: rest) (hc : x.category = 1) (hc' : y.category = 1) (hp : pc + 1 = pc') (g : G w Q h k n pc' Ls (x :: y :: x :: y :: rest)) : G w Q h k n pc Ls st := by
  subst hp; exact g.adv fun T locs X _ t r => XT.dup2 X.here C.ex rfl (C.dec hd) hs hc hc' r
theorem g_dup2L (C : Cx w l Z own bytes mx rt nm rm n0) {x : Int64} (hd : decode bytes pc = .ok (.dup2, 1)) (hs : st = .long x :: rest) (hp : pc + 1 = pc') (g : G w Q h k n pc' Ls (.long x :: .long x :: rest)) : G w Q h k n pc Ls st := by
  subst hp; exact g.adv fun T locs X _ t r => XT.dup2L X.here C.ex rfl (C.dec hd) hs r
theorem g_pop2L (C : Cx w l Z own bytes mx rt nm rm n0) {x : Int64} (hd : decode bytes pc = .ok (.pop2, 1)) (hs : st = .long x :: rest) (hp : pc + 1 = pc') (g : G w Q h k n pc' Ls rest) : G w Q h k n pc Ls st := by
  subst hp hs; exact g.adv fun T locs X _ t r => by
    have hx := C.ex
    have hd' := C.dec hd
    show Steps w.p.tables w.e w.below (T.setTop { method := w.m, pc := pc, locals := Ls, stack := _ :: rest, locked := none }) _
    jvm_step X.here [X.here.top, hx, hd', Value.category]
    exact r
theorem g_dup2_x2L (C : Cx w l Z own bytes mx rt nm rm n0) {x : Int64} {y : Int32} {z : Addr} (hd : decode bytes pc = .ok (.dup2_x2, 1)) (hs : st = .long x :: .int y :: .ref z :: rest) (hp : pc + 1 = pc') (g : G w Q h k n pc' Ls (.long x :: .int y :: .ref z :: .long x :: rest)) : G w Q h k n pc Ls st := by
  subst hp hs; exact g.adv fun T locs X _ t r => by
    have hx := C.ex
    have hd' := C.dec hd
    show Steps w.p.tables w.e w.below (T.setTop { method := w.m, pc := pc, locals := Ls, stack := _ :: _ :: _ :: rest, locked := none }) _
    jvm_step X.here [X.here.top, hx, hd', Value.category]
    exact r
theorem g_goto (C : Cx w l Z own bytes mx rt nm rm n0) {o : Int} (hd : decode bytes pc = .ok (.goto o, 3)) (ho : 0 ≤ (pc : Int) + o) (hp : ((pc : Int) + o).toNat = pc') (g : G w Q h k n pc' Ls st) : G w Q h k n pc Ls st :=
  g.adv fun T locs X _ t r => XS.goto X.here C.ex rfl (pc0 := pc) rfl (C.dec hd) ho hp r
theorem g_ifY (C : Cx w l Z own bytes mx rt nm rm n0) {cd : ClassFile.Cond} {o : Int} {x : Int32} (hd : decode bytes pc = .ok (.ifCond cd o, 3)) (hs : st = .int x :: rest) (hc : if_icmp.holds cd x 0 = true) (ho : 0 ≤ (pc : Int) + o) (hp : ((pc : Int) + o).toNat = pc') (g : G w Q h k n pc' Ls rest) : G w Q h k n pc Ls st :=
  g.adv fun T locs X _ t r => XS.ifYes X.here C.ex rfl (pc0 := pc) rfl (C.dec hd) hs ((if0 _ _).trans hc) ho hp r
theorem g_ifN (C : Cx w l Z own bytes mx rt nm rm n0) {cd : ClassFile.Cond} {o : Int} {x : Int32} (hd : decode bytes pc = .ok (.ifCond cd o, 3)) (hs : st = .int x :: rest) (hc : if_icmp.holds cd x 0 = false) (hp : pc + 3 = pc') (g : G w Q h k n pc' Ls rest) : G w Q h k n pc Ls st := by
  subst hp; exact g.adv fun T locs X _ t r => XS.ifNo X.here C.ex rfl (C.dec hd) hs ((if0 _ _).trans hc) r
theorem g_icY (C : Cx w l Z own bytes mx rt nm rm n0) {cd : ClassFile.Cond} {o : Int} {x y : Int32} (hd : decode bytes pc = .ok (.if_icmp cd o, 3)) (hs : st = .int y :: .int x :: rest) (hc : if_icmp.holds cd x y = true) (ho : 0 ≤ (pc : Int) + o) (hp : ((pc : Int) + o).toNat = pc') (g : G w Q h k n pc' Ls rest) : G w Q h k n pc Ls st :=
  g.adv fun T locs X _ t r => XS.icmpYes X.here C.ex rfl (pc0 := pc) rfl (C.dec hd) hs hc ho hp r
theorem g_icN (C : Cx w l Z own bytes mx rt nm rm n0) {cd : ClassFile.Cond} {o : Int} {x y : Int32} (hd : decode bytes pc = .ok (.if_icmp cd o, 3)) (hs : st = .int y :: .int x :: rest) (hc : if_icmp.holds cd x y = false) (hp : pc + 3 = pc') (g : G w Q h k n pc' Ls rest) : G w Q h k n pc Ls st := by
  subst hp; exact g.adv fun T locs X _ t r => XS.icmpNo X.here C.ex rfl (C.dec hd) hs hc r
/-- what a branch says, in plain words -/
def says (cd : ClassFile.Cond) (x y : Int32) : Prop := match cd with | .lt => x < y | .ge => ¬ x < y | .gt => y < x | .le => ¬ y < x | .eq => x = y | .ne => ¬ x = y
theorem says_t {cd : ClassFile.Cond} {x y : Int32} (q : says cd x y) : if_icmp.holds cd x y = true := by
  cases cd
  · exact (teq q).1
  · exact (feq q).2
  · exact (tlt q).1
  · exact (flt q).2.1
  · exact (tlt q).2.2.1
  · exact (flt q).2.2.2
theorem says_f {cd : ClassFile.Cond} {x y : Int32} (q : ¬ says cd x y) : if_icmp.holds cd x y = false := by
  cases cd
  · exact (feq q).1
  · exact (teq (Decidable.not_not.mp q)).2
  · exact (flt q).1
  · exact (tlt (Decidable.not_not.mp q)).2.1
  · exact (flt q).2.2.1
  · exact (tlt (Decidable.not_not.mp q)).2.2.2
theorem g_icB (C : Cx w l Z own bytes mx rt nm rm n0) {cd : ClassFile.Cond} {o : Int} {x y : Int32} {pcT : Nat} (hd : decode bytes pc = .ok (.if_icmp cd o, 3)) (hs : st = .int y :: .int x :: rest) (ho : 0 ≤ (pc : Int) + o) (hT : ((pc : Int) + o).toNat = pcT) (hp : pc + 3 = pc') (gy : says cd x y → G w Q h k n pcT Ls rest) (gn : ¬ says cd x y → G w Q h k n pc' Ls rest) : G w Q h k n pc Ls st := by
  by_cases q : says cd x y
  · exact g_icY C hd hs (says_t q) ho hT (gy q)
  · exact g_icN C hd hs (says_f q) hp (gn q)
theorem g_ifB (C : Cx w l Z own bytes mx rt nm rm n0) {cd : ClassFile.Cond} {o : Int} {x : Int32} {pcT : Nat} (hd : decode bytes pc = .ok (.ifCond cd o, 3)) (hs : st = .int x :: rest) (ho : 0 ≤ (pc : Int) + o) (hT : ((pc : Int) + o).toNat = pcT) (hp : pc + 3 = pc') (gy : says cd x 0 → G w Q h k n pcT Ls rest) (gn : ¬ says cd x 0 → G w Q h k n pc' Ls rest) : G w Q h k n pc Ls st := by
  by_cases q : says cd x 0
  · exact g_ifY C hd hs (says_t q) ho hT (gy q)
  · exact g_ifN C hd hs (says_f q) hp (gn q)
theorem g_ifnullY (C : Cx w l Z own bytes mx rt nm rm n0) {o : Int} (hd : decode bytes pc = .ok (.ifnull o, 3)) (hs : st = .null :: rest) (ho : 0 ≤ (pc : Int) + o) (hp : ((pc : Int) + o).toNat = pc') (g : G w Q h k n pc' Ls rest) : G w Q h k n pc Ls st :=
  g.adv fun T locs X _ t r => XS.ifnullYes X.here C.ex rfl (pc0 := pc) rfl (C.dec hd) hs ho hp r
theorem g_ifnullN (C : Cx w l Z own bytes mx rt nm rm n0) {o : Int} {b : Addr} (hd : decode bytes pc = .ok (.ifnull o, 3)) (hs : st = .ref b :: rest) (hp : pc + 3 = pc') (g : G w Q h k n pc' Ls rest) : G w Q h k n pc Ls st := by
  subst hp; exact g.adv fun T locs X _ t r => XS.ifnullNo X.here C.ex rfl (C.dec hd) hs r
theorem g_ifnonnullY (C : Cx w l Z own bytes mx rt nm rm n0) {o : Int} {b : Addr} (hd : decode bytes pc = .ok (.ifnonnull o, 3)) (hs : st = .ref b :: rest) (ho : 0 ≤ (pc : Int) + o) (hp : ((pc : Int) + o).toNat = pc') (g : G w Q h k n pc' Ls rest) : G w Q h k n pc Ls st :=
  g.adv fun T locs X _ t r => XS.ifnonnullYes X.here C.ex rfl (pc0 := pc) rfl (C.dec hd) hs ho hp r
theorem g_ifnonnullN (C : Cx w l Z own bytes mx rt nm rm n0) {o : Int} (hd : decode bytes pc = .ok (.ifnonnull o, 3)) (hs : st = .null :: rest) (hp : pc + 3 = pc') (g : G w Q h k n pc' Ls rest) : G w Q h k n pc Ls st := by
  subst hp; exact g.adv fun T locs X _ t r => XS.ifnonnullNo X.here C.ex rfl (C.dec hd) hs r
theorem g_acmp (C : Cx w l Z own bytes mx rt nm rm n0) {cd : ACond} {o : Int} {x y : Value} {same : Bool} (hd : decode bytes pc = .ok (.if_acmp cd o, 3)) (hs : st = y :: x :: rest) (h1 : x.isRef = true) (h2 : y.isRef = true) (hq : decide (x = y) = same) (ho : 0 ≤ (pc : Int) + o) (hp : pc' = if acV cd same = true then ((pc : Int) + o).toNat else pc + 3) (g : G w Q h k n pc' Ls rest) : G w Q h k n pc Ls st :=
  g.adv fun T locs X _ t r => Jvm.RoadKit.acmp (g := mkF w.m pc Ls st) X C.ex rfl h1 h2 (pc0 := pc) rfl (C.dec hd) hs hq ho hp r
theorem g_tsw (C : Cx w l Z own bytes mx rt nm rm n0) {df lo hi : Int} {offs : Array Int} {len : Nat} {o : Int} {i : Int32} (hd : decode bytes pc = .ok (.tableswitch df lo hi offs, len)) (hs : st = .int i :: rest) (hin : ¬ (i.toInt < lo ∨ i.toInt > hi)) (hoff : offs[(i.toInt - lo).toNat]? = some o) (ho : 0 ≤ (pc : Int) + o) (hp : ((pc : Int) + o).toNat = pc') (g : G w Q h k n pc' Ls rest) : G w Q h k n pc Ls st :=
  g.adv fun T locs X _ t r => XS.tswIn X.here C.ex rfl (pc0 := pc) rfl (C.dec hd) hs hin hoff ho hp r
theorem g_tswOut (C : Cx w l Z own bytes mx rt nm rm n0) {df lo hi : Int} {offs : Array Int} {len : Nat} {i : Int32} (hd : decode bytes pc = .ok (.tableswitch df lo hi offs, len)) (hs : st = .int i :: rest) (hin : i.toInt < lo ∨ i.toInt > hi) (ho : 0 ≤ (pc : Int) + df) (hp : ((pc : Int) + df).toNat = pc') (g : G w Q h k n pc' Ls rest) : G w Q h k n pc Ls st :=
  g.adv fun T locs X _ t r => XS.tswOut X.here C.ex rfl (pc0 := pc) rfl (C.dec hd) hs hin ho hp r
/-! the heap and the tables -/
theorem g_getF (C : Cx w l Z own bytes mx rt nm rm n0) {R0 O f d : String} {i : Nat} {a : Addr} {v : Value} (hw : (Jvm.Cond.fieldLink own i R0 f d).before a0 Z = true) (via : Via Z R0 O f d) (hd : decode bytes pc = .ok (.getfield i, 3)) (hs : st = .ref a :: rest) (F : Fld Z h a O f d v) (hp : pc + 3 = pc') (g : G w Q h k n pc' Ls (v :: rest)) : G w Q h k n pc Ls st := by
  subst hp; intro T locs X eT N
  obtain ⟨T', X', e', s'⟩ := getF X C.ex C.hZ C.ow (host := "") (Or.inl hw) via eT F (g := mkF w.m pc Ls st) rfl hs (C.dec hd)
  exact G.to X' e' N s' g
theorem g_getFN (C : Cx w l Z own bytes mx rt nm rm n0) {R0 O f d host : String} {i : Nat} {a : Addr} {v : Value} (hw : (Jvm.Cond.fieldLinkNest own i R0 f d host).before a0 Z = true) (via : Via Z R0 O f d) (hd : decode bytes pc = .ok (.getfield i, 3)) (hs : st = .ref a :: rest) (F : Fld Z h a O f d v) (hp : pc + 3 = pc') (g : G w Q h k n pc' Ls (v :: rest)) : G w Q h k n pc Ls st := by
  subst hp; intro T locs X eT N
  obtain ⟨T', X', e', s'⟩ := getF X C.ex C.hZ C.ow (Or.inr hw) via eT F (g := mkF w.m pc Ls st) rfl hs (C.dec hd)
  exact G.to X' e' N s' g
theorem g_getS (C : Cx w l Z own bytes mx rt nm rm n0) {R0 O f d : String} {i : Nat} {v : Value} (hw : (Jvm.Cond.fieldLink own i R0 f d).before a0 Z = true) (via : Via Z R0 O f d) (hd : decode bytes pc = .ok (.getstatic i, 3)) (F : Sta Z h O f d v) (hp : pc + 3 = pc') (g : G w Q h k n pc' Ls (v :: st)) : G w Q h k n pc Ls st := by
  subst hp; intro T locs X eT N
  obtain ⟨T', X', e', s'⟩ := getS2 X C.ex C.hZ C.ow (host := "") (Or.inl hw) via eT F (g := mkF w.m pc Ls st) rfl (C.dec hd)
  exact G.to X' e' N s' g
theorem g_getSN (C : Cx w l Z own bytes mx rt nm rm n0) {R0 O f d host : String} {i : Nat} {v : Value} (hw : (Jvm.Cond.fieldLinkNest own i R0 f d host).before a0 Z = true) (via : Via Z R0 O f d) (hd : decode bytes pc = .ok (.getstatic i, 3)) (F : Sta Z h O f d v) (hp : pc + 3 = pc') (g : G w Q h k n pc' Ls (v :: st)) : G w Q h k n pc Ls st := by
  subst hp; intro T locs X eT N
  obtain ⟨T', X', e', s'⟩ := getS2 X C.ex C.hZ C.ow (Or.inr hw) via eT F (g := mkF w.m pc Ls st) rfl (C.dec hd)
  exact G.to X' e' N s' g
theorem fr_snoc {L : List Loc} {a : Addr} {sl k : Nat} (N : Fr k L) (q : k ≤ a) : Fr k (L ++ [⟨a, sl⟩]) := N.app fun y hy => by cases List.mem_singleton.mp hy; exact q
theorem g_putF (C : Cx w l Z own bytes mx rt nm rm n0) {R0 O f d K : String} {i kk : Nat} {ty : FieldType} {a : Addr} {v old : Value} (hw : (Jvm.Cond.fieldLink own i R0 f d).before a0 Z = true) (via : Via Z R0 O f d) (hd : decode bytes pc = .ok (.putfield i, 3)) (hs : st = v :: .ref a :: rest) (F : Fld Z h a O f d old) (E : Exa Z h a K) (La : (Jvm.Cond.lays K O f d).before a0 Z = true ∨ ((Jvm.Cond.laysFinal K O f d).before a0 Z = true ∧ own = O ∧ nm = "<init>")) (wi : (Jvm.Cond.instantiable K kk).before a0 Z = true) (hty : parseFieldDescriptor d = some ty) (hn : narrow ty v = v) (hf : fits ty v = true) (ge : n0 ≤ a) (hp : pc + 3 = pc')
    (g : ∀ h', Wr h h' a (Jvm.RoadKit.slotOf Z O f d) v → G w Q h' k n pc' Ls rest) : G w Q h k n pc Ls st := by
  subst hp; intro T locs X eT N
  obtain ⟨T', h', X', e', W, s'⟩ := putF X C.ex C.hZ C.ow (host := "") (Or.inl hw) via eT F E (La.imp id fun q => ⟨q.1, q.2.1, C.mn.trans q.2.2⟩) wi hty hn hf (g := mkF w.m pc Ls st) rfl hs (C.dec hd)
  exact G.to X' e' (fr_snoc N (C.nn ▸ ge)) s' (g h' W)
theorem g_putFN (C : Cx w l Z own bytes mx rt nm rm n0) {R0 O f d K : String} {i kk : Nat} {ty : FieldType} {a : Addr} {v v' old : Value} (hw : (Jvm.Cond.fieldLink own i R0 f d).before a0 Z = true) (via : Via Z R0 O f d) (hd : decode bytes pc = .ok (.putfield i, 3)) (hs : st = v :: .ref a :: rest) (F : Fld Z h a O f d old) (E : Exa Z h a K) (La : (Jvm.Cond.lays K O f d).before a0 Z = true ∨ ((Jvm.Cond.laysFinal K O f d).before a0 Z = true ∧ own = O ∧ nm = "<init>")) (wi : (Jvm.Cond.instantiable K kk).before a0 Z = true) (hty : parseFieldDescriptor d = some ty) (hn : narrow ty v = v') (hf : fits ty v' = true) (ge : n0 ≤ a) (hp : pc + 3 = pc')
    (g : ∀ h', Wr h h' a (Jvm.RoadKit.slotOf Z O f d) v' → G w Q h' k n pc' Ls rest) : G w Q h k n pc Ls st := by
  subst hp; intro T locs X eT N
  obtain ⟨T', h', X', e', W, s'⟩ := putFN X C.ex C.hZ C.ow hw via eT F E (La.imp id fun q => ⟨q.1, q.2.1, C.mn.trans q.2.2⟩) wi hty hn hf (g := mkF w.m pc Ls st) rfl hs (C.dec hd)
  exact G.to X' e' (fr_snoc N (C.nn ▸ ge)) s' (g h' W)
theorem g_new (C : Cx w l Z own bytes mx rt nm rm n0) {K : String} {i ns : Nat} (hw : (Jvm.Cond.classLink own i K).before a0 Z = true) (wi : (Jvm.Cond.instantiable K ns).before a0 Z = true) (wz : (Jvm.Cond.initialized K).before a0 Z = true) (hd : decode bytes pc = .ok (.new i, 3)) (hc : k' ≤ rm.cells) (hl : n' ≤ rm.slots) (ek : k + 1 = k') (en : n + ns = n') (hp : pc + 3 = pc')
    (g : ∀ h' a, a = h.size → Ext h h' → Exa Z h' a K → (∀ {O f d : String} {ty : FieldType}, Laid Z a0 K O f d → parseFieldDescriptor d = some ty → Fld Z h' a O f d (defaultValue ty)) → G w Q h' k' n' pc' Ls (.ref a :: st)) : G w Q h k n pc Ls st := by
  subst hp ek en; intro T locs X eT N
  obtain ⟨T', h', X', e', E, A, D, -, s'⟩ := newO X C.ex C.hZ C.ow hw wi wz eT (g := mkF w.m pc Ls st) rfl (C.dec hd) (by rw [C.ro]; exact hc) (by rw [C.ro]; exact hl)
  exact G.to X' e' N s' (g h' _ rfl E A D)
theorem g_initO (C : Cx w l Z own bytes mx rt nm rm n0) {i : Nat} {a : Addr} (hw : (Jvm.Cond.methodLink own i Lib.objectInit).before a0 Z = true) (w2 : (Jvm.Cond.instanceMethod Lib.objectInit).before a0 Z = true) (w3 : (Jvm.Cond.code Lib.objectInit ⟨#[0xb1]⟩ 1 none).before a0 Z = true) (hd : decode bytes pc = .ok (.invokespecial i, 3)) (hs : st = .ref a :: rest) (hz : Ls.size = mx) (hf : 1 ≤ rm.frames) (hl : (rest.map fun v => v.category).sum + 12 ≤ rm.locals) (hp : pc + 3 = pc') (g : G w Q h k n pc' Ls rest) : G w Q h k n pc Ls st := by
  subst hp; intro T locs X eT N
  obtain ⟨T', X', e', s'⟩ := initO X C.ex C.hZ C.ow hw w2 w3 eT (g := mkF w.m pc Ls st) rfl (hz.trans C.ml.symm) hs (C.dec hd) (by rw [C.ro]; exact hf) (W := (rest.map fun v => v.category).sum) (by show 2 * 0 + _ ≤ _; omega) (by rw [C.ro]; exact hl)
  exact G.to X' e' N s' g
theorem g_cast (C : Cx w l Z own bytes mx rt nm rm n0) {K : String} {i : Nat} {a : Addr} (hw : (Jvm.Cond.classLink own i K).before a0 Z = true) (hd : decode bytes pc = .ok (.checkcast i, 3)) (hs : st = .ref a :: rest) (F : Ins Z h a K true) (hp : pc + 3 = pc') (g : G w Q h k n pc' Ls st) : G w Q h k n pc Ls st := by
  subst hp; intro T locs X eT N
  obtain ⟨T', X', e', s'⟩ := castY X C.ex C.hZ C.ow hw eT F (g := mkF w.m pc Ls st) rfl hs (C.dec hd)
  exact G.to X' e' N s' g
theorem g_instY (C : Cx w l Z own bytes mx rt nm rm n0) {K : String} {i : Nat} {a : Addr} (hw : (Jvm.Cond.classLink own i K).before a0 Z = true) (hd : decode bytes pc = .ok (.instanceof i, 3)) (hs : st = .ref a :: rest) (F : Ins Z h a K true) (hp : pc + 3 = pc') (g : G w Q h k n pc' Ls (.int 1 :: rest)) : G w Q h k n pc Ls st := by
  subst hp; intro T locs X eT N
  obtain ⟨T', X', e', s'⟩ := instY X C.ex C.hZ C.ow hw eT F (g := mkF w.m pc Ls st) rfl hs (C.dec hd)
  exact G.to X' e' N s' g
theorem g_instN (C : Cx w l Z own bytes mx rt nm rm n0) {K B : String} {i : Nat} {a : Addr} (hw : (Jvm.Cond.classLink own i K).before a0 Z = true) (hd : decode bytes pc = .ok (.instanceof i, 3)) (hs : st = .ref a :: rest) (E : Exa Z h a B) (F : ∃ c t, Z.vm.findClass B = some c ∧ Z.vm.findClass K = some t ∧ Z.vm.assignable c t = false) (hp : pc + 3 = pc') (g : G w Q h k n pc' Ls (.int 0 :: rest)) : G w Q h k n pc Ls st := by
  subst hp; intro T locs X eT N
  obtain ⟨T', X', e', s'⟩ := instNo X C.ex C.hZ C.ow hw eT E F (g := mkF w.m pc Ls st) rfl hs (C.dec hd)
  exact G.to X' e' N s' g
theorem g_newP (C : Cx w l Z own bytes mx rt nm rm n0) {aty : ArrayType} {z : Int32} {cap : Nat} (hw : (Jvm.Cond.arrayClass (newarray.typeOf aty)).before a0 Z = true) (hd : decode bytes pc = .ok (.newarray aty, 2)) (hs : st = .int z :: rest) (hn : ¬ z < 0) (hcap : z.toNatClampNeg ≤ cap) (hb' : cap * 8 ≤ 536870912) (hc : k' ≤ rm.cells) (hl : n' ≤ rm.slots) (ek : k + 1 = k') (en : n + cap = n') (hp : pc + 2 = pc')
    (g : ∀ h' a kA, a = h.size → Ext h h' → Arv Z h' a kA (newarray.typeOf aty) z [] (defaultValue (newarray.typeOf aty)) → G w Q h' k' n' pc' Ls (.ref a :: rest)) : G w Q h k n pc Ls st := by
  subst hp ek en; intro T locs X eT N
  obtain ⟨T', h', kA, X', e', E, A, s'⟩ := newP X C.ex C.hZ hw eT (g := mkF w.m pc Ls st) rfl (C.dec hd) hs hn hcap hb' (by rw [C.ro]; exact hc) (by rw [C.ro]; exact hl)
  exact G.to X' e' N s' (g h' _ kA rfl E (Arv.new A hn))
theorem g_newR (C : Cx w l Z own bytes mx rt nm rm n0) {K : String} {i : Nat} {z : Int32} {cap : Nat} (hw : (Jvm.Cond.classLink own i K).before a0 Z = true) (w2 : (Jvm.Cond.arrayOver (.object K)).before a0 Z = true) (hd : decode bytes pc = .ok (.anewarray i, 3)) (hs : st = .int z :: rest) (hn : ¬ z < 0) (hcap : z.toNatClampNeg ≤ cap) (hb' : cap * 8 ≤ 536870912) (hc : k' ≤ rm.cells) (hl : n' ≤ rm.slots) (ek : k + 1 = k') (en : n + cap = n') (hp : pc + 3 = pc')
    (g : ∀ h' a kA, a = h.size → Ext h h' → Arv Z h' a kA (.object K) z [] .null → Ovr Z kA K → G w Q h' k' n' pc' Ls (.ref a :: rest)) : G w Q h k n pc Ls st := by
  subst hp ek en; intro T locs X eT N
  obtain ⟨T', h', kA, X', e', E, A, O, s'⟩ := newR X C.ex C.hZ C.ow hw w2 eT (g := mkF w.m pc Ls st) rfl (C.dec hd) hs hn hcap hb' (by rw [C.ro]; exact hc) (by rw [C.ro]; exact hl)
  exact G.to X' e' N s' (g h' _ kA rfl E (Arv.new A hn) O)
theorem g_newPE (C : Cx w l Z own bytes mx rt nm rm n0) {aty : ArrayType} {z : Int32} {cap : Nat} {ad : String} (hw : (Jvm.Cond.arrayClass (newarray.typeOf aty)).before a0 Z = true) (had : "[" ++ (newarray.typeOf aty).toString = ad) (hd : decode bytes pc = .ok (.newarray aty, 2)) (hs : st = .int z :: rest) (hn : ¬ z < 0) (hcap : z.toNatClampNeg ≤ cap) (hb' : cap * 8 ≤ 536870912) (hc : k' ≤ rm.cells) (hl : n' ≤ rm.slots) (ek : k + 1 = k') (en : n + cap = n') (hp : pc + 2 = pc')
    (g : ∀ h' a kA, a = h.size → Ext h h' → Arv Z h' a kA (newarray.typeOf aty) z [] (defaultValue (newarray.typeOf aty)) → Exa Z h' a ad → G w Q h' k' n' pc' Ls (.ref a :: rest)) : G w Q h k n pc Ls st := by
  subst hp ek en; intro T locs X eT N
  obtain ⟨T', h', kA, X', e', E, A, B, s'⟩ := newPE X C.ex C.hZ hw eT (g := mkF w.m pc Ls st) rfl (C.dec hd) hs hn hcap hb' (by rw [C.ro]; exact hc) (by rw [C.ro]; exact hl) had
  exact G.to X' e' N s' (g h' _ kA rfl E (Arv.new A hn) B)
theorem g_newRA (C : Cx w l Z own bytes mx rt nm rm n0) {K ad : String} {i : Nat} {ty : FieldType} {z : Int32} {cap : Nat} (hC : (FieldType.array ty).toString = K) (had : "[" ++ K = ad) (hw : (Jvm.Cond.classLink own i K).before a0 Z = true) (w2 : (Jvm.Cond.arrayOver (.array ty)).before a0 Z = true) (hd : decode bytes pc = .ok (.anewarray i, 3)) (hs : st = .int z :: rest) (hn : ¬ z < 0) (hcap : z.toNatClampNeg ≤ cap) (hb' : cap * 8 ≤ 536870912) (hc : k' ≤ rm.cells) (hl : n' ≤ rm.slots) (ek : k + 1 = k') (en : n + cap = n') (hp : pc + 3 = pc')
    (g : ∀ h' a kA, a = h.size → Ext h h' → Arv Z h' a kA (.array ty) z [] .null → Exa Z h' a ad → OvrA Z kA ty K → G w Q h' k' n' pc' Ls (.ref a :: rest)) : G w Q h k n pc Ls st := by
  subst hp ek en; intro T locs X eT N
  obtain ⟨T', h', kA, X', e', E, A, B, O, s'⟩ := newRA X C.ex C.hZ C.ow hC hw w2 eT (g := mkF w.m pc Ls st) rfl (C.dec hd) hs hn hcap hb' (by rw [C.ro]; exact hc) (by rw [C.ro]; exact hl) had
  exact G.to X' e' N s' (g h' _ kA rfl E (Arv.new A hn) B O)
theorem stoA {h : Heap} {a y : Addr} {kA : ClassId} {t0 ty : FieldType} {K : String} {z : Int32} {vs : List Value} {dv : Value} (A : Arv Z h a kA t0 z vs dv) (O : OvrA Z kA ty K) (E : Exa Z h y K) : Sto Z h a (.ref y) := by
  obtain ⟨c, Ar, q, -⟩ := A; exact Sto.ofVA Ar q O (Ins.self E)
theorem stoR {h : Heap} {a y : Addr} {kA : ClassId} {t0 : FieldType} {K : String} {z : Int32} {vs : List Value} {dv : Value} (A : Arv Z h a kA t0 z vs dv) (O : Ovr Z kA K) (I : Ins Z h y K true) : Sto Z h a (.ref y) := by
  obtain ⟨c, Ar, q, -⟩ := A; exact Sto.ofV Ar q O I
theorem g_cpA (C : Cx w l Z own bytes mx rt nm rm n0) {i : Nat} {a b : Addr} {k1 k2 : ClassId} {ty ty' : FieldType} {z z' sp dp nn : Int32} {vs vd us : List Value} {dv dd : Value}
    (w1 : (Jvm.Cond.methodLink own i Jvm.Stand.acN).before a0 Z = true) (w2 : (Jvm.Cond.native Jvm.Stand.acN).before a0 Z = true) (w3 : (Jvm.Cond.static Jvm.Stand.acN).before a0 Z = true) (w4 : (Jvm.Cond.initialized "java/lang/System").before a0 Z = true)
    (hd : decode bytes pc = .ok (.invokestatic i, 3)) (hs : st = .int nn :: .int dp :: .ref b :: .int sp :: .ref a :: rest) (hz : Ls.size = mx) (A : Arv Z h a k1 ty z vs dv) (B : Arv Z h b k2 ty' z' vd dd) (hty : (ty = ty' ∧ refKind ty = false) ∨ (refKind ty = true ∧ refKind ty' = true ∧ StoL Z h b us))
    (h1 : ¬ sp < 0) (h2 : ¬ dp < 0) (h3 : ¬ nn < 0) (h4 : sp.toNatClampNeg + nn.toNatClampNeg ≤ z.toNatClampNeg) (h5 : dp.toNatClampNeg + nn.toNatClampNeg ≤ z'.toNatClampNeg) (hus : us = (List.range nn.toNatClampNeg).map fun i => vs.getD (sp.toNatClampNeg + i) dv) (hlen : dp.toNatClampNeg + nn.toNatClampNeg ≤ vd.length) (ge : n0 ≤ b)
    (hf : 1 ≤ rm.frames) (hlo : (rest.map fun v => v.category).sum + (nativeFrameWords "java/lang/System" "arraycopy" 5 + 11) ≤ rm.locals) (hp : pc + 3 = pc')
    (g : ∀ h', Keep h h' [b] → Arv Z h' b k2 ty' z' (vd.take dp.toNatClampNeg ++ us ++ vd.drop (dp.toNatClampNeg + nn.toNatClampNeg)) dd → G w Q h' k n pc' Ls rest) : G w Q h k n pc Ls st := by
  subst hp; intro T locs X eT N
  obtain ⟨T', h', L, X', e', N', K, A', s'⟩ := cpA X C.ex C.hZ C.ow w1 w2 w3 w4 eT A B hty h1 h2 h3 h4 h5 hus hlen (n0 := w.n0) N (C.nn ▸ ge) (g := mkF w.m pc Ls st) rfl (hz.trans C.ml.symm) hs (C.dec hd) (by rw [C.ro]; exact hf) (W := (rest.map fun v => v.category).sum) (by show 2 * 0 + _ ≤ _; omega) (by rw [C.ro]; exact hlo)
  exact G.to X' e' N' s' (g h' K A')
/-! arrays by their values: an array fact (Arv) with a list of all its values -/
theorem arv_inb {a : Addr} {kA : ClassId} {ty : FieldType} {z j : Int32} {vs : List Value} {dv : Value} (A : Arv Z h a kA ty z vs dv) (q1 : ¬ j < 0) (q2 : j < z) : ∃ cl, Arr Z h a cl ty ∧ ¬ (j < 0 ∨ cl.slots.size ≤ j.toNatClampNeg) ∧ cl.slots[j.toNatClampNeg]? = some (vs.getD j.toNatClampNeg dv) := by
  obtain ⟨cl, Ar, -, S, -, H, -⟩ := A
  have hi := inb_of S ⟨q1, q2⟩
  exact ⟨cl, Ar, hi, H.at hi rfl⟩
theorem arv_put {h' : Heap} {a : Addr} {kA : ClassId} {ty : FieldType} {z j : Int32} {vs : List Value} {dv v : Value} (A : Arv Z h a kA ty z vs dv) (hv : fits ty v = true) (W : Wr h h' a j.toNatClampNeg v) {i : Nat} (hj : j.toNatClampNeg = i) (hi : i < vs.length) : Arv Z h' a kA ty z (vs.set i v) dv := by
  obtain ⟨cl, Ar, q1, S, q3, H, F⟩ := A
  exact Arv.set Ar q1 S q3 H F hv W i hj hi

theorem g_iaload (C : Cx w l Z own bytes mx rt nm rm n0) {a : Addr} {kA : ClassId} {z j : Int32} {vs : List Value} {dv : Value} {x : Int32} (hd : decode bytes pc = .ok (.iaload, 1)) (hs : st = .int j :: .ref a :: rest) (A : Arv Z h a kA .int z vs dv) (q1 : ¬ j < 0) (q2 : j < z) (hv : vs.getD j.toNatClampNeg dv = .int x) (hp : pc + 1 = pc') (g : G w Q h k n pc' Ls (.int x :: rest)) : G w Q h k n pc Ls st := by
  subst hp; intro T locs X eT N
  obtain ⟨cl, Ar, hi, hg⟩ := arv_inb A q1 q2
  rw [hv] at hg
  exact G.to X eT N (fun t r => X.iaload C.ex (j := j) (v := .int x) (by rw [eT]; exact Ar.1) (State.isArrayOf_alike C.hZ.alike Ar.2.1) Ar.2.2 hi hg (g := mkF w.m pc Ls st) rfl hs (C.dec hd) _ r) g
theorem g_laload (C : Cx w l Z own bytes mx rt nm rm n0) {a : Addr} {kA : ClassId} {z j : Int32} {vs : List Value} {dv : Value} {x : Int64} (hd : decode bytes pc = .ok (.laload, 1)) (hs : st = .int j :: .ref a :: rest) (A : Arv Z h a kA .long z vs dv) (q1 : ¬ j < 0) (q2 : j < z) (hv : vs.getD j.toNatClampNeg dv = .long x) (hp : pc + 1 = pc') (g : G w Q h k n pc' Ls (.long x :: rest)) : G w Q h k n pc Ls st := by
  subst hp; intro T locs X eT N
  obtain ⟨cl, Ar, hi, hg⟩ := arv_inb A q1 q2
  rw [hv] at hg
  exact G.to X eT N (fun t r => X.laload C.ex (j := j) (v := .long x) (by rw [eT]; exact Ar.1) (State.isArrayOf_alike C.hZ.alike Ar.2.1) Ar.2.2 hi hg (g := mkF w.m pc Ls st) rfl hs (C.dec hd) _ r) g
theorem g_baload (C : Cx w l Z own bytes mx rt nm rm n0) {a : Addr} {kA : ClassId} {z j : Int32} {vs : List Value} {dv : Value} {x : Int32} (hd : decode bytes pc = .ok (.baload, 1)) (hs : st = .int j :: .ref a :: rest) (A : Arv Z h a kA .byte z vs dv) (q1 : ¬ j < 0) (q2 : j < z) (hv : vs.getD j.toNatClampNeg dv = .int x) (hp : pc + 1 = pc') (g : G w Q h k n pc' Ls (.int x :: rest)) : G w Q h k n pc Ls st := by
  subst hp; intro T locs X eT N
  obtain ⟨cl, Ar, hi, hg⟩ := arv_inb A q1 q2
  rw [hv] at hg
  exact G.to X eT N (fun t r => X.baloadBytes C.ex (j := j) (v := .int x) (by rw [eT]; exact Ar.1) (State.isArrayOf_alike C.hZ.alike Ar.2.1) Ar.2.2 hi hg (g := mkF w.m pc Ls st) rfl hs (C.dec hd) _ r) g
theorem g_aaload (C : Cx w l Z own bytes mx rt nm rm n0) {a : Addr} {kA : ClassId} {ty : FieldType} {z j : Int32} {vs : List Value} {dv x : Value} (hd : decode bytes pc = .ok (.aaload, 1)) (hs : st = .int j :: .ref a :: rest) (A : Arv Z h a kA ty z vs dv) (hty : ty.isReference = true) (q1 : ¬ j < 0) (q2 : j < z) (hv : vs.getD j.toNatClampNeg dv = x) (hp : pc + 1 = pc') (g : G w Q h k n pc' Ls (x :: rest)) : G w Q h k n pc Ls st := by
  subst hp; intro T locs X eT N
  obtain ⟨cl, Ar, hi, hg⟩ := arv_inb A q1 q2
  rw [hv] at hg
  exact G.to X eT N (fun t r => X.aaload C.ex (j := j) (v := x) (by rw [eT]; exact Ar.1) (State.isArrayOf_alike C.hZ.alike Ar.2.1) hty Ar.2.2 hi hg (g := mkF w.m pc Ls st) rfl hs (C.dec hd) _ r) g
theorem g_alen (C : Cx w l Z own bytes mx rt nm rm n0) {a : Addr} {kA : ClassId} {ty : FieldType} {z : Int32} {vs : List Value} {dv : Value} (hd : decode bytes pc = .ok (.arraylength, 1)) (hs : st = .ref a :: rest) (A : Arv Z h a kA ty z vs dv) (hp : pc + 1 = pc') (g : G w Q h k n pc' Ls (.int z :: rest)) : G w Q h k n pc Ls st := by
  subst hp; intro T locs X eT N
  obtain ⟨cl, Ar, -, S, q3, -, -⟩ := A
  exact G.to X eT N (fun t r => X.arraylength C.ex (by rw [eT]; exact Ar.1) (State.isArrayOf_alike C.hZ.alike Ar.2.1) (g := mkF w.m pc Ls st) rfl hs (C.dec hd) _ (by rw [len_of S q3]; exact r)) g

theorem g_iastore (C : Cx w l Z own bytes mx rt nm rm n0) {a : Addr} {kA : ClassId} {z j : Int32} {vs : List Value} {dv : Value} {x : Int32} (hd : decode bytes pc = .ok (.iastore, 1)) (hs : st = .int x :: .int j :: .ref a :: rest) (A : Arv Z h a kA .int z vs dv) (q1 : ¬ j < 0) (q2 : j < z) (ge : n0 ≤ a) (hp : pc + 1 = pc')
    (g : ∀ h', Wr h h' a j.toNatClampNeg (.int x) → G w Q h' k n pc' Ls rest) : G w Q h k n pc Ls st := by
  subst hp; intro T locs X eT N
  obtain ⟨cl, Ar, hi, -⟩ := arv_inb A q1 q2
  obtain ⟨T', h', X', e', W, s'⟩ := stI X C.ex C.hZ eT Ar (j := j) hi (g := mkF w.m pc Ls st) rfl hs (C.dec hd)
  exact G.to X' e' (fr_snoc N (C.nn ▸ ge)) s' (g h' W)
theorem g_lastore (C : Cx w l Z own bytes mx rt nm rm n0) {a : Addr} {kA : ClassId} {z j : Int32} {vs : List Value} {dv : Value} {x : Int64} (hd : decode bytes pc = .ok (.lastore, 1)) (hs : st = .long x :: .int j :: .ref a :: rest) (A : Arv Z h a kA .long z vs dv) (q1 : ¬ j < 0) (q2 : j < z) (ge : n0 ≤ a) (hp : pc + 1 = pc')
    (g : ∀ h', Wr h h' a j.toNatClampNeg (.long x) → G w Q h' k n pc' Ls rest) : G w Q h k n pc Ls st := by
  subst hp; intro T locs X eT N
  obtain ⟨cl, Ar, hi, -⟩ := arv_inb A q1 q2
  obtain ⟨T', h', X', e', W, s'⟩ := stJ X C.ex C.hZ eT Ar (j := j) hi (g := mkF w.m pc Ls st) rfl hs (C.dec hd)
  exact G.to X' e' (fr_snoc N (C.nn ▸ ge)) s' (g h' W)
theorem g_bastore (C : Cx w l Z own bytes mx rt nm rm n0) {a : Addr} {kA : ClassId} {z j : Int32} {vs : List Value} {dv : Value} {x : Int32} (hd : decode bytes pc = .ok (.bastore, 1)) (hs : st = .int x :: .int j :: .ref a :: rest) (A : Arv Z h a kA .byte z vs dv) (q1 : ¬ j < 0) (q2 : j < z) (ge : n0 ≤ a) (hp : pc + 1 = pc')
    (g : ∀ h', Wr h h' a j.toNatClampNeg (.int (nar .byte x)) → G w Q h' k n pc' Ls rest) : G w Q h k n pc Ls st := by
  subst hp; intro T locs X eT N
  obtain ⟨cl, Ar, hi, -⟩ := arv_inb A q1 q2
  obtain ⟨T', h', X', e', W, s'⟩ := stB X C.ex C.hZ eT Ar (j := j) hi (g := mkF w.m pc Ls st) rfl hs (C.dec hd)
  exact G.to X' e' (fr_snoc N (C.nn ▸ ge)) s' (g h' W)
theorem g_aastore (C : Cx w l Z own bytes mx rt nm rm n0) {a : Addr} {kA : ClassId} {ty : FieldType} {z j : Int32} {vs : List Value} {dv x : Value} (hd : decode bytes pc = .ok (.aastore, 1)) (hs : st = x :: .int j :: .ref a :: rest) (A : Arv Z h a kA ty z vs dv) (hty : ty.isReference = true) (F : Sto Z h a x) (q1 : ¬ j < 0) (q2 : j < z) (ge : n0 ≤ a) (hp : pc + 1 = pc')
    (g : ∀ h', Wr h h' a j.toNatClampNeg x → G w Q h' k n pc' Ls rest) : G w Q h k n pc Ls st := by
  subst hp; intro T locs X eT N
  obtain ⟨cl, Ar, hi, -⟩ := arv_inb A q1 q2
  obtain ⟨T', h', X', e', W, s'⟩ := stR X C.ex C.hZ eT Ar (j := j) hi hty F (g := mkF w.m pc Ls st) rfl hs (C.dec hd)
  exact G.to X' e' (fr_snoc N (C.nn ▸ ge)) s' (g h' W)
/-! returns -/
theorem g_ret (C : Cx w l Z own bytes mx (some t) nm rm n0) {v : Value} {i : Instr} (hd : decode bytes pc = .ok (i, 1)) (hs : st = v :: rest) (hn : narrow t v = v)
    (hi : (i = .ireturn ∧ (t = .int ∨ t = .boolean ∨ t = .byte ∨ t = .char ∨ t = .short) ∧ ∃ z, v = .int z) ∨ (i = .lreturn ∧ t = .long ∧ ∃ z, v = .long z) ∨ (i = .dreturn ∧ t = .double ∧ ∃ z, v = .double z) ∨ (i = .freturn ∧ t = .float ∧ ∃ z, v = .float z) ∨ (i = .areturn ∧ t.isReference = true ∧ v.isRef = true))
    (hk : k ≤ rm.cells) (hnn : n ≤ rm.slots) (q : Q (some v) h) : G w Q h k n pc Ls st := by
  subst hs; intro T locs X eT N
  obtain ⟨fs, hr, hrun, hended, hW, hsame⟩ := X.leave (v := some v) (fun h => by rw [C.ret] at h; cases h) C.lk
  exact ⟨_, _, retOut X C.ex C.ret hn hi (C.dec hd) hr, hrun, hended, _, locs, rfl, ⟨by show Q _ T.heap; rw [eT]; exact q, N⟩, ⟨_, rfl⟩, hW, hsame.mono (by rw [C.ro]; exact hk) (by rw [C.ro]; exact hnn)⟩
theorem g_ireturn (C : Cx w l Z own bytes mx (some .int) nm rm n0) {z : Int32} (hd : decode bytes pc = .ok (.ireturn, 1)) (hs : st = .int z :: rest) (hk : k ≤ rm.cells) (hnn : n ≤ rm.slots) (q : Q (some (.int z)) h) : G w Q h k n pc Ls st :=
  g_ret C hd hs rfl (Or.inl ⟨rfl, Or.inl rfl, z, rfl⟩) hk hnn q
theorem g_zreturn (C : Cx w l Z own bytes mx (some .boolean) nm rm n0) {z : Int32} (hd : decode bytes pc = .ok (.ireturn, 1)) (hs : st = .int z :: rest) (hn : narrow .boolean (.int z) = .int z) (hk : k ≤ rm.cells) (hnn : n ≤ rm.slots) (q : Q (some (.int z)) h) : G w Q h k n pc Ls st :=
  g_ret C hd hs hn (Or.inl ⟨rfl, Or.inr (Or.inl rfl), z, rfl⟩) hk hnn q
theorem g_breturn (C : Cx w l Z own bytes mx (some .byte) nm rm n0) {z : Int32} (hd : decode bytes pc = .ok (.ireturn, 1)) (hs : st = .int z :: rest) (hn : narrow .byte (.int z) = .int z) (hk : k ≤ rm.cells) (hnn : n ≤ rm.slots) (q : Q (some (.int z)) h) : G w Q h k n pc Ls st :=
  g_ret C hd hs hn (Or.inl ⟨rfl, Or.inr (Or.inr (Or.inl rfl)), z, rfl⟩) hk hnn q
theorem g_lreturn (C : Cx w l Z own bytes mx (some .long) nm rm n0) {z : Int64} (hd : decode bytes pc = .ok (.lreturn, 1)) (hs : st = .long z :: rest) (hk : k ≤ rm.cells) (hnn : n ≤ rm.slots) (q : Q (some (.long z)) h) : G w Q h k n pc Ls st :=
  g_ret C hd hs rfl (Or.inr (Or.inl ⟨rfl, rfl, z, rfl⟩)) hk hnn q
theorem g_areturn (C : Cx w l Z own bytes mx (some t) nm rm n0) {v : Value} (hd : decode bytes pc = .ok (.areturn, 1)) (hs : st = v :: rest) (ht : t.isReference = true) (hv : v.isRef = true) (hn : narrow t v = v) (hk : k ≤ rm.cells) (hnn : n ≤ rm.slots) (q : Q (some v) h) : G w Q h k n pc Ls st :=
  g_ret C hd hs hn (Or.inr (Or.inr (Or.inr (Or.inr ⟨rfl, ht, hv⟩)))) hk hnn q
theorem g_return (C : Cx w l Z own bytes mx none nm rm n0) (hd : decode bytes pc = .ok (.return_, 1)) (hs : st = []) (hk : k ≤ rm.cells) (hnn : n ≤ rm.slots) (q : Q none h) : G w Q h k n pc Ls st := by
  subst hs; intro T locs X eT N
  obtain ⟨fs, hr, hrun, hended, hW, hsame⟩ := X.leave (v := none) (fun _ => rfl) C.lk
  exact ⟨_, _, X.returnOut C.ex C.ret (C.dec hd) hr, hrun, hended, _, locs, rfl, ⟨by show Q _ T.heap; rw [eT]; exact q, N⟩, ⟨_, rfl⟩, hW, hsame.mono (by rw [C.ro]; exact hk) (by rw [C.ro]; exact hnn)⟩
/-! calls by the callee's contract -/
theorem g_fin {rm' : Room} {Q' : Option Value → Heap → Prop} {T : State} {locs : List Loc} {as : Array Value} {v : Option Value} {B : Pt} {A : Pt} (C : Cx w l Z own bytes mx rt nm rm n0) (hA : A.locs = locs ∧ A.cells = k ∧ A.slots = n)
    (X' : Stand w.p w.l w.e w.R w.s w.m w.args w.below w.meth w.c B.U B.locs B.cells B.slots) (hQ : ∃ L, (Q' v B.U.heap ∧ Fr n0 L) ∧ B.locs = A.locs ++ L ∧ B.cells = A.cells + rm'.cells ∧ B.slots = A.slots + rm'.slots) (N : Fr w.n0 locs)
    (g : ∀ v h', Q' v h' → G w Q h' (k + rm'.cells) (n + rm'.slots) pc' Ls (psh v rest)) (s' : ∀ t, Steps w.p.tables w.e w.below (B.U.setTop (mkF w.m pc' Ls (v.toList ++ rest))) t → Steps w.p.tables w.e w.below (T.setTop (mkF w.m pc Ls st)) t) : Ends w Q (T.setTop (mkF w.m pc Ls st)) := by
  obtain ⟨T', L', k', n'⟩ := B
  obtain ⟨L, ⟨hq, hL⟩, e1, e2, e3⟩ := hQ
  obtain ⟨a1, a2, a3⟩ := hA
  dsimp only [Pt.U, Pt.locs, Pt.cells, Pt.slots] at X' hq e1 e2 e3 s' a1 a2 a3
  subst a1 a2 a3 e1 e2 e3
  rw [psh_eq] at s'
  exact G.to X' rfl (N.app (C.nn ▸ hL)) s' (g v _ hq)
theorem g_callS (C : Cx w l Z own bytes mx rt nm rm n0) {y : MethodName} {i mL : Nat} {bs : ByteArray} {rt' : Option FieldType} {rm' : Room} {Q' : Option Value → Heap → Prop} {argsL : List Value} {ps : List FieldType} {r : Option FieldType}
    (w1 : (Jvm.Cond.methodLink own i y).before a0 Z = true) (w2 : (Jvm.Cond.static y).before a0 Z = true) (w3 : (Jvm.Cond.initialized y.cls).before a0 Z = true) (w4 : (Jvm.Cond.code y bs mL rt').before a0 Z = true) (hy : y.cls ≠ "java/lang/invoke/MethodHandle" ∧ y.cls ≠ "java/lang/invoke/VarHandle")
    (hd : decode bytes pc = .ok (.invokestatic i, 3)) (pd : parseMethodDescriptor y.desc = some ⟨ps, r⟩) (hlen : argsL.length = ps.length) (hst : st = argsL.reverse ++ rest) (hz : Ls.size = mx)
    (K : Con l Z y bs mL rt' rm' argsL.toArray h n0 Q') (hf : rm'.frames + 1 ≤ rm.frames) (hl : (rest.map fun v => v.category).sum + (mL + 11) + rm'.locals ≤ rm.locals) (hc : k' ≤ rm.cells) (hn : n' ≤ rm.slots) (ek : k + rm'.cells = k') (en : n + rm'.slots = n') (hp : pc + 3 = pc')
    (g : ∀ v h', Q' v h' → G w Q h' k' n' pc' Ls (psh v rest)) : G w Q h k n pc Ls st := by
  subst hp ek en; intro T locs X eT N
  have hl0 : w.l = l := C.1
  subst hl0
  obtain ⟨v, vm₁, B, -, X', hQ, s'⟩ := Jvm.LawKit.callS X C.ex C.ow (mvT C.hZ w1) (mvT C.hZ w2) (mvT C.hZ w3) (mvT C.hZ w4) hy (backOf (W := (rest.map fun v => v.category).sum) (Q := fun v h L => Q' v h ∧ Fr n0 L) (K []) C.hZ w4 w3 (by rw [C.ro]; exact hf) (by rw [C.ro]; exact hl)) (g := mkF w.m pc Ls st) rfl (hz.trans C.ml.symm) (argsL := argsL) (rest := rest) (lenOf pd hlen) hst (by show 2 * 0 + _ ≤ _; omega) (C.dec hd) (fun _ _ => ⟨rfl, eT, by rw [C.ro]; exact hc, by rw [C.ro]; exact hn⟩)
  exact g_fin (T := T) (as := argsL.toArray) (A := (⟨T.setVm vm₁, locs, k, n⟩ : Pt)) C ⟨rfl, rfl, rfl⟩ X' hQ N g s'
theorem g_special (C : Cx w l Z own bytes mx rt nm rm n0) {y : MethodName} {i mL : Nat} {bs : ByteArray} {rm' : Room} {Q' : Option Value → Heap → Prop} {a : Addr} {argsL : List Value} {ps : List FieldType} {r : Option FieldType}
    (w1 : (Jvm.Cond.methodLink own i y).before a0 Z = true) (w2 : (Jvm.Cond.instanceMethod y).before a0 Z = true) (w3 : (Jvm.Cond.initialized y.cls).before a0 Z = true) (w4 : (Jvm.Cond.code y bs mL none).before a0 Z = true) (hy : y.cls ≠ "java/lang/invoke/MethodHandle" ∧ y.cls ≠ "java/lang/invoke/VarHandle") (hy1 : y.name = "<init>")
    (hd : decode bytes pc = .ok (.invokespecial i, 3)) (pd : parseMethodDescriptor y.desc = some ⟨ps, r⟩) (hlen : argsL.length = ps.length) (hst : st = argsL.reverse ++ .ref a :: rest) (hz : Ls.size = mx)
    (K : Con l Z y bs mL none rm' (.ref a :: argsL).toArray h n0 Q') (hf : rm'.frames + 1 ≤ rm.frames) (hl : (rest.map fun v => v.category).sum + (mL + 11) + rm'.locals ≤ rm.locals) (hc : k' ≤ rm.cells) (hn : n' ≤ rm.slots) (ek : k + rm'.cells = k') (en : n + rm'.slots = n') (hp : pc + 3 = pc')
    (g : ∀ v h', Q' v h' → G w Q h' k' n' pc' Ls (psh v rest)) : G w Q h k n pc Ls st := by
  subst hp ek en; intro T locs X eT N
  have hl0 : w.l = l := C.1
  subst hl0
  obtain ⟨v, vm₁, B, -, X', hQ, s'⟩ := X.specialBack C.ex hy1 C.ow (mvT C.hZ w1) (mvT C.hZ w2) (mvT C.hZ w4) hy (backOf (W := (rest.map fun v => v.category).sum) (Q := fun v h L => Q' v h ∧ Fr n0 L) (K []) C.hZ w4 w3 (by rw [C.ro]; exact hf) (by rw [C.ro]; exact hl)) (g := mkF w.m pc Ls st) rfl (hz.trans C.ml.symm) (Steps.refl _) (a := a) (argsL := argsL) (rest := rest) (lenOf pd hlen) hst (by show 2 * 0 + _ ≤ _; omega) (C.dec hd) (fun _ _ => ⟨rfl, eT, by rw [C.ro]; exact hc, by rw [C.ro]; exact hn⟩)
  exact g_fin (T := T) (as := argsL.toArray) (A := (⟨T.setVm vm₁, locs, k, n⟩ : Pt)) C ⟨rfl, rfl, rfl⟩ X' hQ N g (fun t r => s'.trans r)
theorem g_virtual (C : Cx w l Z own bytes mx rt nm rm n0) {y z : MethodName} {B : String} {i mL : Nat} {bs : ByteArray} {rt' : Option FieldType} {rm' : Room} {Q' : Option Value → Heap → Prop} {a : Addr} {argsL : List Value} {ps : List FieldType} {r : Option FieldType}
    (w1 : (Jvm.Cond.methodLink own i y).before a0 Z = true) (w2 : (Jvm.Cond.declares y).before a0 Z = true) (nf : ∀ {s : State}, Z.Warmed39 s.vm → NotFace s y) (ws : (Jvm.Cond.selects B y z).before a0 Z = true) (w5 : (Jvm.Cond.instanceMethod z).before a0 Z = true) (w3 : (Jvm.Cond.initialized z.cls).before a0 Z = true) (w4 : (Jvm.Cond.code z bs mL rt').before a0 Z = true) (hy : y.cls ≠ "java/lang/invoke/MethodHandle" ∧ y.cls ≠ "java/lang/invoke/VarHandle")
    (hd : decode bytes pc = .ok (.invokevirtual i, 3)) (pd : parseMethodDescriptor y.desc = some ⟨ps, r⟩) (hlen : argsL.length = ps.length) (hst : st = argsL.reverse ++ .ref a :: rest) (hz : Ls.size = mx) (E : Exa Z h a B)
    (K : Con l Z z bs mL rt' rm' (.ref a :: argsL).toArray h n0 Q') (hf : rm'.frames + 1 ≤ rm.frames) (hl : (rest.map fun v => v.category).sum + (mL + 11) + rm'.locals ≤ rm.locals) (hc : k' ≤ rm.cells) (hn : n' ≤ rm.slots) (ek : k + rm'.cells = k') (en : n + rm'.slots = n') (hp : pc + 3 = pc')
    (g : ∀ v h', Q' v h' → G w Q h' k' n' pc' Ls (psh v rest)) : G w Q h k n pc Ls st := by
  subst hp ek en; intro T locs X eT N
  have hl0 : w.l = l := C.1
  subst hl0
  obtain ⟨cq, kq, q1, q2, q3⟩ := isOf C.hZ eT E
  obtain ⟨v, vm₁, B, -, X', hQ, s'⟩ := X.virtualBack C.ex C.ow (mvT C.hZ w1) (mvT C.hZ w2) (nf C.hZ) (mvT C.hZ ws) (mvT C.hZ w5) hy (backOf (W := (rest.map fun v => v.category).sum) (Q := fun v h L => Q' v h ∧ Fr n0 L) (K []) C.hZ w4 w3 (by rw [C.ro]; exact hf) (by rw [C.ro]; exact hl)) q1 q3 (g := mkF w.m pc Ls st) rfl (hz.trans C.ml.symm) (Steps.refl _) (argsL := argsL) (rest := rest) (lenOf pd hlen) hst (by show 2 * 0 + _ ≤ _; omega) (C.dec hd) (fun _ _ => ⟨rfl, eT, by rw [C.ro]; exact hc, by rw [C.ro]; exact hn⟩)
  exact g_fin (T := T) (as := argsL.toArray) (A := (⟨T.setVm vm₁, locs, k, n⟩ : Pt)) C ⟨rfl, rfl, rfl⟩ X' hQ N g (fun t r => s'.trans r)
theorem nfSel {y : MethodName} {B : String} (ws : (Jvm.Cond.selects B y y).before a0 Z = true) : ∀ {s : State}, Z.Warmed39 s.vm → NotFace s y := fun hZ => notFace_of_selects (args := #[]) (mvT hZ ws)
theorem g_virtualUp (C : Cx w l Z own bytes mx rt nm rm n0) {y z : MethodName} {B owner : String} {i mL : Nat} {bs : ByteArray} {rt' : Option FieldType} {rm' : Room} {Q' : Option Value → Heap → Prop} {a : Addr} {argsL : List Value} {ps : List FieldType} {r : Option FieldType}
    (w1 : (Jvm.Cond.methodLink own i y).before a0 Z = true) (wm : (Jvm.Cond.sameMethod y.cls owner y.name y.desc).before a0 Z = true) (w2 : (Jvm.Cond.declares ⟨owner, y.name, y.desc⟩).before a0 Z = true) (ho : owner ≠ "java/lang/invoke/MethodHandle" ∧ owner ≠ "java/lang/invoke/VarHandle") (ws : (Jvm.Cond.selects B y z).before a0 Z = true) (w5 : (Jvm.Cond.instanceMethod z).before a0 Z = true) (w3 : (Jvm.Cond.initialized z.cls).before a0 Z = true) (w4 : (Jvm.Cond.code z bs mL rt').before a0 Z = true)
    (hd : decode bytes pc = .ok (.invokevirtual i, 3)) (pd : parseMethodDescriptor y.desc = some ⟨ps, r⟩) (hlen : argsL.length = ps.length) (hst : st = argsL.reverse ++ .ref a :: rest) (hz : Ls.size = mx) (E : Exa Z h a B)
    (K : Con l Z z bs mL rt' rm' (.ref a :: argsL).toArray h n0 Q') (hf : rm'.frames + 1 ≤ rm.frames) (hl : (rest.map fun v => v.category).sum + (mL + 11) + rm'.locals ≤ rm.locals) (hc : k' ≤ rm.cells) (hn : n' ≤ rm.slots) (ek : k + rm'.cells = k') (en : n + rm'.slots = n') (hp : pc + 3 = pc')
    (g : ∀ v h', Q' v h' → G w Q h' k' n' pc' Ls (psh v rest)) : G w Q h k n pc Ls st := by
  subst hp ek en; intro T locs X eT N
  have hl0 : w.l = l := C.1
  subst hl0
  obtain ⟨cq, kq, q1, q2, q3⟩ := isOf C.hZ eT E
  obtain ⟨v, vm₁, B, -, X', hQ, s'⟩ := X.virtualBackUp C.ex C.ow (mvT C.hZ w1) (mvT C.hZ wm) (mvT C.hZ w2) ho (mvT C.hZ ws) (mvT C.hZ w5) (backOf (W := (rest.map fun v => v.category).sum) (Q := fun v h L => Q' v h ∧ Fr n0 L) (K []) C.hZ w4 w3 (by rw [C.ro]; exact hf) (by rw [C.ro]; exact hl)) q1 q3 (g := mkF w.m pc Ls st) rfl (hz.trans C.ml.symm) (Steps.refl _) (argsL := argsL) (rest := rest) (lenOf pd hlen) hst (by show 2 * 0 + _ ≤ _; omega) (C.dec hd) (fun _ _ => ⟨rfl, eT, by rw [C.ro]; exact hc, by rw [C.ro]; exact hn⟩)
  exact g_fin (T := T) (as := argsL.toArray) (A := (⟨T.setVm vm₁, locs, k, n⟩ : Pt)) C ⟨rfl, rfl, rfl⟩ X' hQ N g (fun t r => s'.trans r)
theorem g_interface (C : Cx w l Z own bytes mx rt nm rm n0) {y z : MethodName} {B : String} {count : Nat} {i mL : Nat} {bs : ByteArray} {rt' : Option FieldType} {rm' : Room} {Q' : Option Value → Heap → Prop} {a : Addr} {argsL : List Value} {ps : List FieldType} {r : Option FieldType}
    (w1 : (Jvm.Cond.methodLink own i y).before a0 Z = true) (w2 : (Jvm.Cond.declares y).before a0 Z = true) (wf : (Jvm.Cond.interfaceMethod y.cls y.cls y.name y.desc).before a0 Z = true) (hfa : ((Jvm.Cond.interfaceMethod y.cls y.cls y.name y.desc).onTables && (Jvm.Cond.interfaceMethod y.cls y.cls y.name y.desc).keepsFace) = true) (ws : (Jvm.Cond.selects B y z).before a0 Z = true) (w5 : (Jvm.Cond.instanceMethod z).before a0 Z = true) (wp : (Jvm.Cond.publicMethod z).before a0 Z = true) (wu : (Jvm.Cond.unhidden B y.name y.desc).before a0 Z = true) (wk : (Jvm.Cond.castable B y.cls).before a0 Z = true) (w3 : (Jvm.Cond.initialized z.cls).before a0 Z = true) (w4 : (Jvm.Cond.code z bs mL rt').before a0 Z = true) (hy : y.cls ≠ "java/lang/invoke/MethodHandle" ∧ y.cls ≠ "java/lang/invoke/VarHandle")
    (hd : decode bytes pc = .ok (.invokeinterface i count, 5)) (pd : parseMethodDescriptor y.desc = some ⟨ps, r⟩) (hlen : argsL.length = ps.length) (hst : st = argsL.reverse ++ .ref a :: rest) (hz : Ls.size = mx) (E : Exa Z h a B)
    (K : Con l Z z bs mL rt' rm' (.ref a :: argsL).toArray h n0 Q') (hf : rm'.frames + 1 ≤ rm.frames) (hl : (rest.map fun v => v.category).sum + (mL + 11) + rm'.locals ≤ rm.locals) (hc : k' ≤ rm.cells) (hn : n' ≤ rm.slots) (ek : k + rm'.cells = k') (en : n + rm'.slots = n') (hp : pc + 5 = pc')
    (g : ∀ v h', Q' v h' → G w Q h' k' n' pc' Ls (psh v rest)) : G w Q h k n pc Ls st := by
  subst hp ek en; intro T locs X eT N
  have hl0 : w.l = l := C.1
  subst hl0
  obtain ⟨cq, kq, q1, q2, q3⟩ := isOf C.hZ eT E
  obtain ⟨v, vm₁, B, -, X', hQ, s'⟩ := X.interfaceBack C.ex C.ow (mvT C.hZ w1) (mvT C.hZ w2) (mvT C.hZ wf hfa) (mvT C.hZ ws) (mvT C.hZ w5) (mvT C.hZ wp) (mvT C.hZ wu) (mvT C.hZ wk) hy (backOf (W := (rest.map fun v => v.category).sum) (Q := fun v h L => Q' v h ∧ Fr n0 L) (K []) C.hZ w4 w3 (by rw [C.ro]; exact hf) (by rw [C.ro]; exact hl)) q1 q2 q3 (g := mkF w.m pc Ls st) rfl (hz.trans C.ml.symm) (Steps.refl _) (argsL := argsL) (rest := rest) (lenOf pd hlen) hst (by show 2 * 0 + _ ≤ _; omega) (C.dec hd) (fun _ _ => ⟨rfl, eT, by rw [C.ro]; exact hc, by rw [C.ro]; exact hn⟩)
  exact g_fin (T := T) (as := argsL.toArray) (A := (⟨T.setVm vm₁, locs, k, n⟩ : Pt)) C ⟨rfl, rfl, rfl⟩ X' hQ N g (fun t r => s'.trans r)
theorem g_private (C : Cx w l Z own bytes mx rt nm rm n0) {y : MethodName} {B : String} {kk i mL : Nat} {bs : ByteArray} {rt' : Option FieldType} {rm' : Room} {Q' : Option Value → Heap → Prop} {a : Addr} {argsL : List Value} {ps : List FieldType} {r : Option FieldType}
    (w1 : (Jvm.Cond.methodLink own i y).before a0 Z = true) (w5 : (Jvm.Cond.instanceMethod y).before a0 Z = true) (wi : (Jvm.Cond.instantiable y.cls kk).before a0 Z = true) (wp : (Jvm.Cond.privateMethod y).before a0 Z = true) (w3 : (Jvm.Cond.initialized y.cls).before a0 Z = true) (w4 : (Jvm.Cond.code y bs mL rt').before a0 Z = true) (hy : y.cls ≠ "java/lang/invoke/MethodHandle" ∧ y.cls ≠ "java/lang/invoke/VarHandle")
    (hd : decode bytes pc = .ok (.invokevirtual i, 3)) (pd : parseMethodDescriptor y.desc = some ⟨ps, r⟩) (hlen : argsL.length = ps.length) (hst : st = argsL.reverse ++ .ref a :: rest) (hz : Ls.size = mx) (E : Exa Z h a B)
    (K : Con l Z y bs mL rt' rm' (.ref a :: argsL).toArray h n0 Q') (hf : rm'.frames + 1 ≤ rm.frames) (hl : (rest.map fun v => v.category).sum + (mL + 11) + rm'.locals ≤ rm.locals) (hc : k' ≤ rm.cells) (hn : n' ≤ rm.slots) (ek : k + rm'.cells = k') (en : n + rm'.slots = n') (hp : pc + 3 = pc')
    (g : ∀ v h', Q' v h' → G w Q h' k' n' pc' Ls (psh v rest)) : G w Q h k n pc Ls st := by
  subst hp ek en; intro T locs X eT N
  have hl0 : w.l = l := C.1
  subst hl0
  obtain ⟨cq, q1, q2⟩ := E.cell
  have wi' : (Jvm.Cond.instantiable y.cls kk).before w.args w.s = true := mvT C.hZ wi
  obtain ⟨c2, k2, i1, i2, -, i4, -⟩ := Cond.instantiable_spec wi'
  have hni : k2.isInterface = false := (Bool.or_eq_false_iff.mp i4).1
  have hpv := Cond.privateMethod_at (mvP C.hZ wp (args := w.args))
  obtain ⟨v, vm₁, B, -, X', hQ, s'⟩ := X.privateBack C.ex C.ow (mvT C.hZ w1) (mvT C.hZ w5) (selects_self_of_private i1 i2 hni hpv (mvT C.hZ w5) hy) hpv (mvT C.hZ w4) hy (backOf (W := (rest.map fun v => v.category).sum) (Q := fun v h L => Q' v h ∧ Fr n0 L) (K []) C.hZ w4 w3 (by rw [C.ro]; exact hf) (by rw [C.ro]; exact hl)) (g := mkF w.m pc Ls st) rfl (hz.trans C.ml.symm) (Steps.refl _) (a := a) (by rw [eT]; exact q1) q2 (argsL := argsL) (rest := rest) (lenOf pd hlen) hst (by show 2 * 0 + _ ≤ _; omega) (C.dec hd) (fun _ _ => ⟨rfl, eT, by rw [C.ro]; exact hc, by rw [C.ro]; exact hn⟩)
  exact g_fin (T := T) (as := argsL.toArray) (A := (⟨T.setVm vm₁, locs, k, n⟩ : Pt)) C ⟨rfl, rfl, rfl⟩ X' hQ N g (fun t r => s'.trans r)
theorem g_lswHit (C : Cx w l Z own bytes mx rt nm rm n0) {df : Int} {prs : Array (Int × Int)} {len : Nat} {a o : Int} {i : Int32} (hd : decode bytes pc = .ok (.lookupswitch df prs, len)) (hs : st = .int i :: rest) (hso : (prs.toList.zip (prs.toList.drop 1)).all (fun (a, next) => a.1 < next.1) = true) (hf : prs.find? (·.1 == i.toInt) = some (a, o)) (ho : 0 ≤ (pc : Int) + o) (hp : ((pc : Int) + o).toNat = pc') (g : G w Q h k n pc' Ls rest) : G w Q h k n pc Ls st := by
  subst hp; exact g.adv fun T locs X _ t r => X.lookupswitchHit C.ex (g := mkF w.m pc Ls st) rfl hs (C.dec hd) hso hf ho t r
theorem g_lswMiss (C : Cx w l Z own bytes mx rt nm rm n0) {df : Int} {prs : Array (Int × Int)} {len : Nat} {i : Int32} (hd : decode bytes pc = .ok (.lookupswitch df prs, len)) (hs : st = .int i :: rest) (hso : (prs.toList.zip (prs.toList.drop 1)).all (fun (a, next) => a.1 < next.1) = true) (hf : prs.find? (·.1 == i.toInt) = none) (ho : 0 ≤ (pc : Int) + df) (hp : ((pc : Int) + df).toNat = pc') (g : G w Q h k n pc' Ls rest) : G w Q h k n pc Ls st := by
  subst hp; exact g.adv fun T locs X _ t r => X.lookupswitchMiss C.ex (g := mkF w.m pc Ls st) rfl hs (C.dec hd) hso hf ho t r
end Gs
theorem wd {Z : State} {a0 : Array Value} (hw : ∀ d ∈ tables_1, d.before a0 Z = true) (i : Nat) {d : Jvm.Cond} (e : tables_1[i]? = some d) : d.before a0 Z = true := hw _ (List.mem_of_getElem? e)
theorem own_fldInt {args : Array Value} {s : State} {t : Term} {a : Addr} {C f d : String} {k : Int32} (ev : t.eval args s none [] s = some (.ref a)) (h : (Jvm.Cond.eq (.field t C f d) (.int k)).value args s none s [] = some true) : Fld s s.heap a C f d (.int k) := by
  obtain ⟨x, y, hx, hy, k1, k2⟩ := cmp_v (Or.inl h)
  cases (Term.int_eval k).symm.trans hy
  obtain ⟨z, rfl⟩ : ∃ z, x = .int z := by simpa [Kin] using k2
  have e : z = k := by simpa [Jvm.Cond.value, hx, hy] using h
  subst e
  rw [fld_at ev] at hx
  exact Fld.start hx
theorem own_fldLong {args : Array Value} {s : State} {t : Term} {a : Addr} {C f d : String} {k : Int64} (ev : t.eval args s none [] s = some (.ref a)) (h : (Jvm.Cond.eq (.field t C f d) (.long k)).value args s none s [] = some true) : Fld s s.heap a C f d (.long k) := by
  obtain ⟨x, y, hx, hy, k1, k2⟩ := cmp_v (Or.inl h)
  cases (long_at k).symm.trans hy
  obtain ⟨z, rfl⟩ : ∃ z, x = .long z := by simpa [Kin] using k2
  have e : z = k := by simpa [Jvm.Cond.value, hx, hy] using h
  subst e
  rw [fld_at ev] at hx
  exact Fld.start hx
theorem own_staLong {args : Array Value} {s : State} {t : Term} {k : Int64} (h : (Jvm.Cond.eq t (.long k)).value args s none s [] = some true) : t.eval args s none [] s = some (.long k) := by
  obtain ⟨x, y, hx, hy, k1, k2⟩ := cmp_v (Or.inl h)
  cases (long_at k).symm.trans hy
  obtain ⟨z, rfl⟩ : ∃ z, x = .long z := by simpa [Kin] using k2
  have e : z = k := by simpa [Jvm.Cond.value, hx, hy] using h
  subst e
  exact hx
theorem own_staInt {args : Array Value} {s : State} {t : Term} {k : Int32} (h : (Jvm.Cond.eq t (.int k)).value args s none s [] = some true) : t.eval args s none [] s = some (.int k) := by
  obtain ⟨x, y, hx, hy, k1, k2⟩ := cmp_v (Or.inl h)
  cases (Term.int_eval k).symm.trans hy
  obtain ⟨z, rfl⟩ : ∃ z, x = .int z := by simpa [Kin] using k2
  have e : z = k := by simpa [Jvm.Cond.value, hx, hy] using h
  subst e
  exact hx
theorem own_ine {i j : Int32} (h : i ≠ j) : (Value.int i) ≠ .int j := fun q => h (by injection q)
theorem own_mask31 (x : Int32) : 0 ≤ (x &&& 2147483647).toInt ∧ (x &&& 2147483647).toInt < 2147483648 := by
  have := c_mask x 2147483647 31 (by decide) (by decide)
  rw [this]; omega
def En (Z : State) (s_PC : Addr) (s_OA : Addr) (s_O : Addr) (s_UA : Addr) (s_U : Addr) : Prop := (Sta Z Z.heap "com/example/honeyguide/honeyguide/NodeKind" "PC" "Lcom/example/honeyguide/honeyguide/NodeKind;" (.ref s_PC)) ∧ (Exa Z Z.heap s_PC "com/example/honeyguide/honeyguide/NodeKind") ∧ (Sta Z Z.heap "com/example/honeyguide/honeyguide/NodeKind" "OA" "Lcom/example/honeyguide/honeyguide/NodeKind;" (.ref s_OA)) ∧ (Exa Z Z.heap s_OA "com/example/honeyguide/honeyguide/NodeKind") ∧ (Sta Z Z.heap "com/example/honeyguide/honeyguide/NodeKind" "O" "Lcom/example/honeyguide/honeyguide/NodeKind;" (.ref s_O)) ∧ (Exa Z Z.heap s_O "com/example/honeyguide/honeyguide/NodeKind") ∧ (Sta Z Z.heap "com/example/honeyguide/honeyguide/NodeKind" "UA" "Lcom/example/honeyguide/honeyguide/NodeKind;" (.ref s_UA)) ∧ (Exa Z Z.heap s_UA "com/example/honeyguide/honeyguide/NodeKind") ∧ (Sta Z Z.heap "com/example/honeyguide/honeyguide/NodeKind" "U" "Lcom/example/honeyguide/honeyguide/NodeKind;" (.ref s_U)) ∧ (Exa Z Z.heap s_U "com/example/honeyguide/honeyguide/NodeKind") ∧ (Fld Z Z.heap s_PC "java/lang/Enum" "ordinal" "I" (.int (0 : Int32))) ∧ (Fld Z Z.heap s_O "java/lang/Enum" "ordinal" "I" (.int (4 : Int32))) ∧ (Fld Z Z.heap s_UA "java/lang/Enum" "ordinal" "I" (.int (1 : Int32))) ∧ (Fld Z Z.heap s_U "java/lang/Enum" "ordinal" "I" (.int (2 : Int32))) ∧ (Fld Z Z.heap s_OA "java/lang/Enum" "ordinal" "I" (.int (3 : Int32)))
theorem own_mod5 (x : Int32) : ((x &&& (2147483647 : Int32)) % (5 : Int32)) = (0 : Int32) ∨ ((x &&& (2147483647 : Int32)) % (5 : Int32)) = (1 : Int32) ∨ ((x &&& (2147483647 : Int32)) % (5 : Int32)) = (2 : Int32) ∨ ((x &&& (2147483647 : Int32)) % (5 : Int32)) = (3 : Int32) ∨ ((x &&& (2147483647 : Int32)) % (5 : Int32)) = (4 : Int32) := by
  have h1 := own_mask31 x
  have h2 : ((x &&& (2147483647 : Int32)) % (5 : Int32)).toInt = (x &&& 2147483647).toInt.tmod 5 := by rw [Int32.toInt_mod]; rfl
  rw [Int.tmod_eq_emod_of_nonneg h1.1] at h2
  simp only [← Int32.toInt_inj, h2]
  have h3 : (x &&& 2147483647).toInt % 5 = 0 ∨ (x &&& 2147483647).toInt % 5 = 1 ∨ (x &&& 2147483647).toInt % 5 = 2 ∨ (x &&& 2147483647).toInt % 5 = 3 ∨ (x &&& 2147483647).toInt % 5 = 4 := by omega
  rcases h3 with h | h | h | h | h <;> simp [h]
theorem d1_0 : decode method_2_code 0 = .ok (.iload_n 0, 1) := by decide +kernel
theorem d1_1 : decode method_2_code 1 = .ok (.ldc 7, 2) := by decide +kernel
theorem d1_3 : decode method_2_code 3 = .ok (.iand, 1) := by decide +kernel
theorem d1_4 : decode method_2_code 4 = .ok (.iconst 5, 1) := by decide +kernel
theorem d1_5 : decode method_2_code 5 = .ok (.irem, 1) := by decide +kernel
theorem d1_6 : decode method_2_code 6 = .ok (.istore_n 1, 1) := by decide +kernel
theorem d1_7 : decode method_2_code 7 = .ok (.iload_n 1, 1) := by decide +kernel
theorem d1_8 : decode method_2_code 8 = .ok (.ifCond .ne 7, 3) := by decide +kernel
theorem d1_11 : decode method_2_code 11 = .ok (.getstatic 8, 3) := by decide +kernel
theorem d1_14 : decode method_2_code 14 = .ok (.areturn, 1) := by decide +kernel
theorem pn_1 : plainName "com/example/honeyguide/honeyguide/NodeKindMayBeAssignedToPinLaw" = true := by first | (simp [plainName, overriddenIn]; done) | decide +kernel
set_option maxRecDepth 65536 in
set_option maxHeartbeats 40000000 in
theorem kind_PC (l : Launch) (Z : State) (a0 : Array Value) (hw : ∀ d ∈ tables_1, d.before a0 Z = true) (n0 : Nat) (h : Heap) (O : Old Z n0 h) (s_PC : Addr) (s_OA : Addr) (s_O : Addr) (s_UA : Addr) (s_U : Addr) (H : En Z s_PC s_OA s_O s_UA s_U) (p : Int32) (e5 : ((p &&& (2147483647 : Int32)) % (5 : Int32)) = (0 : Int32)) : Con l Z (⟨"com/example/honeyguide/honeyguide/NodeKindMayBeAssignedToPinLaw", "kind", "(I)Lcom/example/honeyguide/honeyguide/NodeKind;"⟩ : MethodName) method_2_code 2 (some (.object "com/example/honeyguide/honeyguide/NodeKind")) ({ frames := 0, cells := 0, slots := 0, locals := 0 } : Room) #[(.int p)] h n0 (fun v h' => v = some (.ref s_PC) ∧ h' = h) := by
  refine Con.mk (Ls := #[.val (.int p), .unset]) (plainFor_of_name pn_1) (fun m => by first | (simp [entryFrame, mkF, argsToLocals, Value.category]; done) | rfl) (fun w C => ?_)
  replace C : Cx w l Z "com/example/honeyguide/honeyguide/NodeKindMayBeAssignedToPinLaw" method_2_code 2 (some (.object "com/example/honeyguide/honeyguide/NodeKind")) "kind" ({ frames := 0, cells := 0, slots := 0, locals := 0 } : Room) n0 := C
  obtain ⟨S_PC, E_PC, S_OA, E_OA, S_O, E_O, S_UA, E_UA, S_U, E_U, F_PC_ordinal, F_O_ordinal, F_UA_ordinal, F_U_ordinal, F_OA_ordinal⟩ := id H
  refine g_iloadN C (pc' := 1) d1_0 rfl rfl ?_
  refine g_ldcInt C (pc' := 3) (wd hw 4 rfl) d1_1 rfl ?_
  refine g_iand C (pc' := 4) d1_3 rfl rfl ?_
  refine g_iconst C (pc' := 5) (v := (5 : Int32)) d1_4 (by decide) rfl ?_
  refine g_irem C (pc' := 6) d1_5 rfl (by decide) rfl ?_
  rw [e5]
  refine g_istoreN C (pc' := 7) (Ls' := #[.val (.int p), .val (.int (0 : Int32))]) d1_6 rfl rfl rfl ?_
  refine g_iloadN C (pc' := 8) d1_7 rfl rfl ?_
  refine g_ifN C (pc' := 11) d1_8 rfl (by decide) rfl ?_
  refine g_getS C (pc' := 14) (wd hw 5 rfl) Via.refl d1_11 (S_PC.ext O.2) rfl ?_
  exact g_areturn C d1_14 rfl rfl rfl rfl (Nat.le_of_ble_eq_true rfl) (Nat.le_of_ble_eq_true rfl) (⟨rfl, rfl⟩)
theorem d3_0 : decode jdk_37_method_2_code 0 = .ok (.aload_n 0, 1) := by decide +kernel
theorem d3_1 : decode jdk_37_method_2_code 1 = .ok (.getfield 7, 3) := by decide +kernel
theorem d3_4 : decode jdk_37_method_2_code 4 = .ok (.ireturn, 1) := by decide +kernel
theorem pn_2 : plainName "java/lang/Enum" = true := by first | (simp [plainName, overriddenIn]; done) | decide +kernel
set_option maxRecDepth 65536 in
set_option maxHeartbeats 40000000 in
theorem ord_PC (l : Launch) (Z : State) (a0 : Array Value) (hw : ∀ d ∈ tables_1, d.before a0 Z = true) (n0 : Nat) (h : Heap) (O : Old Z n0 h) (s_PC : Addr) (s_OA : Addr) (s_O : Addr) (s_UA : Addr) (s_U : Addr) (H : En Z s_PC s_OA s_O s_UA s_U) : Con l Z (⟨"java/lang/Enum", "ordinal", "()I"⟩ : MethodName) jdk_37_method_2_code 1 (some .int) ({ frames := 0, cells := 0, slots := 0, locals := 0 } : Room) #[(.ref s_PC)] h n0 (fun v h' => v = some (.int (0 : Int32)) ∧ h' = h) := by
  refine Con.mk (Ls := #[.val (.ref s_PC)]) (plainFor_of_name pn_2) (fun m => by first | (simp [entryFrame, mkF, argsToLocals, Value.category]; done) | rfl) (fun w C => ?_)
  replace C : Cx w l Z "java/lang/Enum" jdk_37_method_2_code 1 (some .int) "ordinal" ({ frames := 0, cells := 0, slots := 0, locals := 0 } : Room) n0 := C
  obtain ⟨S_PC, E_PC, S_OA, E_OA, S_O, E_O, S_UA, E_UA, S_U, E_U, F_PC_ordinal, F_O_ordinal, F_UA_ordinal, F_U_ordinal, F_OA_ordinal⟩ := id H
  refine g_aloadN C (pc' := 1) d3_0 rfl rfl rfl ?_
  refine g_getF C (pc' := 4) (wd hw 22 rfl) Via.refl d3_1 rfl (F_PC_ordinal.ext O.2) rfl ?_
  exact g_ireturn C d3_4 rfl (Nat.le_of_ble_eq_true rfl) (Nat.le_of_ble_eq_true rfl) (⟨rfl, rfl⟩)
theorem d4_0 : decode method_4_code 0 = .ok (.aload_n 0, 1) := by decide +kernel
theorem d4_1 : decode method_4_code 1 = .ok (.getstatic 14, 3) := by decide +kernel
theorem d4_4 : decode method_4_code 4 = .ok (.if_acmp .eq 10, 3) := by decide +kernel
theorem d4_7 : decode method_4_code 7 = .ok (.aload_n 0, 1) := by decide +kernel
theorem d4_8 : decode method_4_code 8 = .ok (.getstatic 20, 3) := by decide +kernel
theorem d4_11 : decode method_4_code 11 = .ok (.if_acmp .ne 7, 3) := by decide +kernel
theorem d4_18 : decode method_4_code 18 = .ok (.iconst 0, 1) := by decide +kernel
theorem d4_19 : decode method_4_code 19 = .ok (.ireturn, 1) := by decide +kernel
set_option maxRecDepth 65536 in
set_option maxHeartbeats 40000000 in
theorem isA_PC (l : Launch) (Z : State) (a0 : Array Value) (hw : ∀ d ∈ tables_1, d.before a0 Z = true) (n0 : Nat) (h : Heap) (O : Old Z n0 h) (s_PC : Addr) (s_OA : Addr) (s_O : Addr) (s_UA : Addr) (s_U : Addr) (H : En Z s_PC s_OA s_O s_UA s_U) : Con l Z (⟨"com/example/honeyguide/honeyguide/NodeKindMayBeAssignedToPinLaw", "isAttribute", "(Lcom/example/honeyguide/honeyguide/NodeKind;)Z"⟩ : MethodName) method_4_code 1 (some .boolean) ({ frames := 0, cells := 0, slots := 0, locals := 0 } : Room) #[(.ref s_PC)] h n0 (fun v h' => v = some (.int (0 : Int32)) ∧ h' = h) := by
  refine Con.mk (Ls := #[.val (.ref s_PC)]) (plainFor_of_name pn_1) (fun m => by first | (simp [entryFrame, mkF, argsToLocals, Value.category]; done) | rfl) (fun w C => ?_)
  replace C : Cx w l Z "com/example/honeyguide/honeyguide/NodeKindMayBeAssignedToPinLaw" method_4_code 1 (some .boolean) "isAttribute" ({ frames := 0, cells := 0, slots := 0, locals := 0 } : Room) n0 := C
  obtain ⟨S_PC, E_PC, S_OA, E_OA, S_O, E_O, S_UA, E_UA, S_U, E_U, F_PC_ordinal, F_O_ordinal, F_UA_ordinal, F_U_ordinal, F_OA_ordinal⟩ := id H
  refine g_aloadN C (pc' := 1) d4_0 rfl rfl rfl ?_
  refine g_getS C (pc' := 4) (wd hw 26 rfl) Via.refl d4_1 (S_UA.ext O.2) rfl ?_
  refine g_acmp C (pc' := 7) (same := false) d4_4 rfl rfl rfl (decide_eq_false fun q => (Fld.ne F_PC_ordinal F_UA_ordinal (own_ine (by decide))) (Value.ref.inj q)) (by decide) (by decide) ?_
  refine g_aloadN C (pc' := 8) d4_7 rfl rfl rfl ?_
  refine g_getS C (pc' := 11) (wd hw 8 rfl) Via.refl d4_8 (S_OA.ext O.2) rfl ?_
  refine g_acmp C (pc' := 18) (same := false) d4_11 rfl rfl rfl (decide_eq_false fun q => (Fld.ne F_PC_ordinal F_OA_ordinal (own_ine (by decide))) (Value.ref.inj q)) (by decide) (by decide) ?_
  refine g_iconst C (pc' := 19) (v := (0 : Int32)) d4_18 (by decide) rfl ?_
  exact g_zreturn C d4_19 rfl rfl (Nat.le_of_ble_eq_true rfl) (Nat.le_of_ble_eq_true rfl) (⟨rfl, rfl⟩)
theorem d5_0 : decode method_3_code 0 = .ok (.aload_n 0, 1) := by decide +kernel
theorem d5_1 : decode method_3_code 1 = .ok (.getstatic 14, 3) := by decide +kernel
theorem d5_4 : decode method_3_code 4 = .ok (.if_acmp .eq 10, 3) := by decide +kernel
theorem d5_7 : decode method_3_code 7 = .ok (.aload_n 0, 1) := by decide +kernel
theorem d5_8 : decode method_3_code 8 = .ok (.getstatic 17, 3) := by decide +kernel
theorem d5_11 : decode method_3_code 11 = .ok (.if_acmp .ne 5, 3) := by decide +kernel
theorem d5_16 : decode method_3_code 16 = .ok (.aload_n 0, 1) := by decide +kernel
theorem d5_17 : decode method_3_code 17 = .ok (.getstatic 20, 3) := by decide +kernel
theorem d5_20 : decode method_3_code 20 = .ok (.if_acmp .eq 10, 3) := by decide +kernel
theorem d5_23 : decode method_3_code 23 = .ok (.aload_n 0, 1) := by decide +kernel
theorem d5_24 : decode method_3_code 24 = .ok (.getstatic 23, 3) := by decide +kernel
theorem d5_27 : decode method_3_code 27 = .ok (.if_acmp .ne 5, 3) := by decide +kernel
theorem d5_32 : decode method_3_code 32 = .ok (.iconst 0, 1) := by decide +kernel
theorem d5_33 : decode method_3_code 33 = .ok (.ireturn, 1) := by decide +kernel
set_option maxRecDepth 65536 in
set_option maxHeartbeats 40000000 in
theorem side_PC (l : Launch) (Z : State) (a0 : Array Value) (hw : ∀ d ∈ tables_1, d.before a0 Z = true) (n0 : Nat) (h : Heap) (O : Old Z n0 h) (s_PC : Addr) (s_OA : Addr) (s_O : Addr) (s_UA : Addr) (s_U : Addr) (H : En Z s_PC s_OA s_O s_UA s_U) : Con l Z (⟨"com/example/honeyguide/honeyguide/NodeKindMayBeAssignedToPinLaw", "side", "(Lcom/example/honeyguide/honeyguide/NodeKind;)I"⟩ : MethodName) method_3_code 1 (some .int) ({ frames := 0, cells := 0, slots := 0, locals := 0 } : Room) #[(.ref s_PC)] h n0 (fun v h' => v = some (.int (0 : Int32)) ∧ h' = h) := by
  refine Con.mk (Ls := #[.val (.ref s_PC)]) (plainFor_of_name pn_1) (fun m => by first | (simp [entryFrame, mkF, argsToLocals, Value.category]; done) | rfl) (fun w C => ?_)
  replace C : Cx w l Z "com/example/honeyguide/honeyguide/NodeKindMayBeAssignedToPinLaw" method_3_code 1 (some .int) "side" ({ frames := 0, cells := 0, slots := 0, locals := 0 } : Room) n0 := C
  obtain ⟨S_PC, E_PC, S_OA, E_OA, S_O, E_O, S_UA, E_UA, S_U, E_U, F_PC_ordinal, F_O_ordinal, F_UA_ordinal, F_U_ordinal, F_OA_ordinal⟩ := id H
  refine g_aloadN C (pc' := 1) d5_0 rfl rfl rfl ?_
  refine g_getS C (pc' := 4) (wd hw 26 rfl) Via.refl d5_1 (S_UA.ext O.2) rfl ?_
  refine g_acmp C (pc' := 7) (same := false) d5_4 rfl rfl rfl (decide_eq_false fun q => (Fld.ne F_PC_ordinal F_UA_ordinal (own_ine (by decide))) (Value.ref.inj q)) (by decide) (by decide) ?_
  refine g_aloadN C (pc' := 8) d5_7 rfl rfl rfl ?_
  refine g_getS C (pc' := 11) (wd hw 34 rfl) Via.refl d5_8 (S_U.ext O.2) rfl ?_
  refine g_acmp C (pc' := 16) (same := false) d5_11 rfl rfl rfl (decide_eq_false fun q => (Fld.ne F_PC_ordinal F_U_ordinal (own_ine (by decide))) (Value.ref.inj q)) (by decide) (by decide) ?_
  refine g_aloadN C (pc' := 17) d5_16 rfl rfl rfl ?_
  refine g_getS C (pc' := 20) (wd hw 8 rfl) Via.refl d5_17 (S_OA.ext O.2) rfl ?_
  refine g_acmp C (pc' := 23) (same := false) d5_20 rfl rfl rfl (decide_eq_false fun q => (Fld.ne F_PC_ordinal F_OA_ordinal (own_ine (by decide))) (Value.ref.inj q)) (by decide) (by decide) ?_
  refine g_aloadN C (pc' := 24) d5_23 rfl rfl rfl ?_
  refine g_getS C (pc' := 27) (wd hw 24 rfl) Via.refl d5_24 (S_O.ext O.2) rfl ?_
  refine g_acmp C (pc' := 32) (same := false) d5_27 rfl rfl rfl (decide_eq_false fun q => (Fld.ne F_PC_ordinal F_O_ordinal (own_ine (by decide))) (Value.ref.inj q)) (by decide) (by decide) ?_
  refine g_iconst C (pc' := 33) (v := (0 : Int32)) d5_32 (by decide) rfl ?_
  exact g_ireturn C d5_33 rfl (Nat.le_of_ble_eq_true rfl) (Nat.le_of_ble_eq_true rfl) (⟨rfl, rfl⟩)
theorem d1_15 : decode method_2_code 15 = .ok (.iload_n 1, 1) := by decide +kernel
theorem d1_16 : decode method_2_code 16 = .ok (.iconst 1, 1) := by decide +kernel
theorem d1_17 : decode method_2_code 17 = .ok (.if_icmp .ne 7, 3) := by decide +kernel
theorem d1_20 : decode method_2_code 20 = .ok (.getstatic 14, 3) := by decide +kernel
theorem d1_23 : decode method_2_code 23 = .ok (.areturn, 1) := by decide +kernel
set_option maxRecDepth 65536 in
set_option maxHeartbeats 40000000 in
theorem kind_UA (l : Launch) (Z : State) (a0 : Array Value) (hw : ∀ d ∈ tables_1, d.before a0 Z = true) (n0 : Nat) (h : Heap) (O : Old Z n0 h) (s_PC : Addr) (s_OA : Addr) (s_O : Addr) (s_UA : Addr) (s_U : Addr) (H : En Z s_PC s_OA s_O s_UA s_U) (p : Int32) (e5 : ((p &&& (2147483647 : Int32)) % (5 : Int32)) = (1 : Int32)) : Con l Z (⟨"com/example/honeyguide/honeyguide/NodeKindMayBeAssignedToPinLaw", "kind", "(I)Lcom/example/honeyguide/honeyguide/NodeKind;"⟩ : MethodName) method_2_code 2 (some (.object "com/example/honeyguide/honeyguide/NodeKind")) ({ frames := 0, cells := 0, slots := 0, locals := 0 } : Room) #[(.int p)] h n0 (fun v h' => v = some (.ref s_UA) ∧ h' = h) := by
  refine Con.mk (Ls := #[.val (.int p), .unset]) (plainFor_of_name pn_1) (fun m => by first | (simp [entryFrame, mkF, argsToLocals, Value.category]; done) | rfl) (fun w C => ?_)
  replace C : Cx w l Z "com/example/honeyguide/honeyguide/NodeKindMayBeAssignedToPinLaw" method_2_code 2 (some (.object "com/example/honeyguide/honeyguide/NodeKind")) "kind" ({ frames := 0, cells := 0, slots := 0, locals := 0 } : Room) n0 := C
  obtain ⟨S_PC, E_PC, S_OA, E_OA, S_O, E_O, S_UA, E_UA, S_U, E_U, F_PC_ordinal, F_O_ordinal, F_UA_ordinal, F_U_ordinal, F_OA_ordinal⟩ := id H
  refine g_iloadN C (pc' := 1) d1_0 rfl rfl ?_
  refine g_ldcInt C (pc' := 3) (wd hw 4 rfl) d1_1 rfl ?_
  refine g_iand C (pc' := 4) d1_3 rfl rfl ?_
  refine g_iconst C (pc' := 5) (v := (5 : Int32)) d1_4 (by decide) rfl ?_
  refine g_irem C (pc' := 6) d1_5 rfl (by decide) rfl ?_
  rw [e5]
  refine g_istoreN C (pc' := 7) (Ls' := #[.val (.int p), .val (.int (1 : Int32))]) d1_6 rfl rfl rfl ?_
  refine g_iloadN C (pc' := 8) d1_7 rfl rfl ?_
  refine g_ifY C (pc' := 15) d1_8 rfl (by decide) (by decide) rfl ?_
  refine g_iloadN C (pc' := 16) d1_15 rfl rfl ?_
  refine g_iconst C (pc' := 17) (v := (1 : Int32)) d1_16 (by decide) rfl ?_
  refine g_icN C (pc' := 20) d1_17 rfl (by decide) rfl ?_
  refine g_getS C (pc' := 23) (wd hw 26 rfl) Via.refl d1_20 (S_UA.ext O.2) rfl ?_
  exact g_areturn C d1_23 rfl rfl rfl rfl (Nat.le_of_ble_eq_true rfl) (Nat.le_of_ble_eq_true rfl) (⟨rfl, rfl⟩)
set_option maxRecDepth 65536 in
set_option maxHeartbeats 40000000 in
theorem ord_UA (l : Launch) (Z : State) (a0 : Array Value) (hw : ∀ d ∈ tables_1, d.before a0 Z = true) (n0 : Nat) (h : Heap) (O : Old Z n0 h) (s_PC : Addr) (s_OA : Addr) (s_O : Addr) (s_UA : Addr) (s_U : Addr) (H : En Z s_PC s_OA s_O s_UA s_U) : Con l Z (⟨"java/lang/Enum", "ordinal", "()I"⟩ : MethodName) jdk_37_method_2_code 1 (some .int) ({ frames := 0, cells := 0, slots := 0, locals := 0 } : Room) #[(.ref s_UA)] h n0 (fun v h' => v = some (.int (1 : Int32)) ∧ h' = h) := by
  refine Con.mk (Ls := #[.val (.ref s_UA)]) (plainFor_of_name pn_2) (fun m => by first | (simp [entryFrame, mkF, argsToLocals, Value.category]; done) | rfl) (fun w C => ?_)
  replace C : Cx w l Z "java/lang/Enum" jdk_37_method_2_code 1 (some .int) "ordinal" ({ frames := 0, cells := 0, slots := 0, locals := 0 } : Room) n0 := C
  obtain ⟨S_PC, E_PC, S_OA, E_OA, S_O, E_O, S_UA, E_UA, S_U, E_U, F_PC_ordinal, F_O_ordinal, F_UA_ordinal, F_U_ordinal, F_OA_ordinal⟩ := id H
  refine g_aloadN C (pc' := 1) d3_0 rfl rfl rfl ?_
  refine g_getF C (pc' := 4) (wd hw 22 rfl) Via.refl d3_1 rfl (F_UA_ordinal.ext O.2) rfl ?_
  exact g_ireturn C d3_4 rfl (Nat.le_of_ble_eq_true rfl) (Nat.le_of_ble_eq_true rfl) (⟨rfl, rfl⟩)
theorem d4_14 : decode method_4_code 14 = .ok (.iconst 1, 1) := by decide +kernel
theorem d4_15 : decode method_4_code 15 = .ok (.goto 4, 3) := by decide +kernel
set_option maxRecDepth 65536 in
set_option maxHeartbeats 40000000 in
theorem isA_UA (l : Launch) (Z : State) (a0 : Array Value) (hw : ∀ d ∈ tables_1, d.before a0 Z = true) (n0 : Nat) (h : Heap) (O : Old Z n0 h) (s_PC : Addr) (s_OA : Addr) (s_O : Addr) (s_UA : Addr) (s_U : Addr) (H : En Z s_PC s_OA s_O s_UA s_U) : Con l Z (⟨"com/example/honeyguide/honeyguide/NodeKindMayBeAssignedToPinLaw", "isAttribute", "(Lcom/example/honeyguide/honeyguide/NodeKind;)Z"⟩ : MethodName) method_4_code 1 (some .boolean) ({ frames := 0, cells := 0, slots := 0, locals := 0 } : Room) #[(.ref s_UA)] h n0 (fun v h' => v = some (.int (1 : Int32)) ∧ h' = h) := by
  refine Con.mk (Ls := #[.val (.ref s_UA)]) (plainFor_of_name pn_1) (fun m => by first | (simp [entryFrame, mkF, argsToLocals, Value.category]; done) | rfl) (fun w C => ?_)
  replace C : Cx w l Z "com/example/honeyguide/honeyguide/NodeKindMayBeAssignedToPinLaw" method_4_code 1 (some .boolean) "isAttribute" ({ frames := 0, cells := 0, slots := 0, locals := 0 } : Room) n0 := C
  obtain ⟨S_PC, E_PC, S_OA, E_OA, S_O, E_O, S_UA, E_UA, S_U, E_U, F_PC_ordinal, F_O_ordinal, F_UA_ordinal, F_U_ordinal, F_OA_ordinal⟩ := id H
  refine g_aloadN C (pc' := 1) d4_0 rfl rfl rfl ?_
  refine g_getS C (pc' := 4) (wd hw 26 rfl) Via.refl d4_1 (S_UA.ext O.2) rfl ?_
  refine g_acmp C (pc' := 14) (same := true) d4_4 rfl rfl rfl (decide_eq_true rfl) (by decide) (by decide) ?_
  refine g_iconst C (pc' := 15) (v := (1 : Int32)) d4_14 (by decide) rfl ?_
  refine g_goto C (pc' := 19) d4_15 (by decide) rfl ?_
  exact g_zreturn C d4_19 rfl rfl (Nat.le_of_ble_eq_true rfl) (Nat.le_of_ble_eq_true rfl) (⟨rfl, rfl⟩)
theorem d5_14 : decode method_3_code 14 = .ok (.iconst 1, 1) := by decide +kernel
theorem d5_15 : decode method_3_code 15 = .ok (.ireturn, 1) := by decide +kernel
set_option maxRecDepth 65536 in
set_option maxHeartbeats 40000000 in
theorem side_UA (l : Launch) (Z : State) (a0 : Array Value) (hw : ∀ d ∈ tables_1, d.before a0 Z = true) (n0 : Nat) (h : Heap) (O : Old Z n0 h) (s_PC : Addr) (s_OA : Addr) (s_O : Addr) (s_UA : Addr) (s_U : Addr) (H : En Z s_PC s_OA s_O s_UA s_U) : Con l Z (⟨"com/example/honeyguide/honeyguide/NodeKindMayBeAssignedToPinLaw", "side", "(Lcom/example/honeyguide/honeyguide/NodeKind;)I"⟩ : MethodName) method_3_code 1 (some .int) ({ frames := 0, cells := 0, slots := 0, locals := 0 } : Room) #[(.ref s_UA)] h n0 (fun v h' => v = some (.int (1 : Int32)) ∧ h' = h) := by
  refine Con.mk (Ls := #[.val (.ref s_UA)]) (plainFor_of_name pn_1) (fun m => by first | (simp [entryFrame, mkF, argsToLocals, Value.category]; done) | rfl) (fun w C => ?_)
  replace C : Cx w l Z "com/example/honeyguide/honeyguide/NodeKindMayBeAssignedToPinLaw" method_3_code 1 (some .int) "side" ({ frames := 0, cells := 0, slots := 0, locals := 0 } : Room) n0 := C
  obtain ⟨S_PC, E_PC, S_OA, E_OA, S_O, E_O, S_UA, E_UA, S_U, E_U, F_PC_ordinal, F_O_ordinal, F_UA_ordinal, F_U_ordinal, F_OA_ordinal⟩ := id H
  refine g_aloadN C (pc' := 1) d5_0 rfl rfl rfl ?_
  refine g_getS C (pc' := 4) (wd hw 26 rfl) Via.refl d5_1 (S_UA.ext O.2) rfl ?_
  refine g_acmp C (pc' := 14) (same := true) d5_4 rfl rfl rfl (decide_eq_true rfl) (by decide) (by decide) ?_
  refine g_iconst C (pc' := 15) (v := (1 : Int32)) d5_14 (by decide) rfl ?_
  exact g_ireturn C d5_15 rfl (Nat.le_of_ble_eq_true rfl) (Nat.le_of_ble_eq_true rfl) (⟨rfl, rfl⟩)
theorem d1_24 : decode method_2_code 24 = .ok (.iload_n 1, 1) := by decide +kernel
theorem d1_25 : decode method_2_code 25 = .ok (.iconst 2, 1) := by decide +kernel
theorem d1_26 : decode method_2_code 26 = .ok (.if_icmp .ne 7, 3) := by decide +kernel
theorem d1_29 : decode method_2_code 29 = .ok (.getstatic 17, 3) := by decide +kernel
theorem d1_32 : decode method_2_code 32 = .ok (.areturn, 1) := by decide +kernel
set_option maxRecDepth 65536 in
set_option maxHeartbeats 40000000 in
theorem kind_U (l : Launch) (Z : State) (a0 : Array Value) (hw : ∀ d ∈ tables_1, d.before a0 Z = true) (n0 : Nat) (h : Heap) (O : Old Z n0 h) (s_PC : Addr) (s_OA : Addr) (s_O : Addr) (s_UA : Addr) (s_U : Addr) (H : En Z s_PC s_OA s_O s_UA s_U) (p : Int32) (e5 : ((p &&& (2147483647 : Int32)) % (5 : Int32)) = (2 : Int32)) : Con l Z (⟨"com/example/honeyguide/honeyguide/NodeKindMayBeAssignedToPinLaw", "kind", "(I)Lcom/example/honeyguide/honeyguide/NodeKind;"⟩ : MethodName) method_2_code 2 (some (.object "com/example/honeyguide/honeyguide/NodeKind")) ({ frames := 0, cells := 0, slots := 0, locals := 0 } : Room) #[(.int p)] h n0 (fun v h' => v = some (.ref s_U) ∧ h' = h) := by
  refine Con.mk (Ls := #[.val (.int p), .unset]) (plainFor_of_name pn_1) (fun m => by first | (simp [entryFrame, mkF, argsToLocals, Value.category]; done) | rfl) (fun w C => ?_)
  replace C : Cx w l Z "com/example/honeyguide/honeyguide/NodeKindMayBeAssignedToPinLaw" method_2_code 2 (some (.object "com/example/honeyguide/honeyguide/NodeKind")) "kind" ({ frames := 0, cells := 0, slots := 0, locals := 0 } : Room) n0 := C
  obtain ⟨S_PC, E_PC, S_OA, E_OA, S_O, E_O, S_UA, E_UA, S_U, E_U, F_PC_ordinal, F_O_ordinal, F_UA_ordinal, F_U_ordinal, F_OA_ordinal⟩ := id H
  refine g_iloadN C (pc' := 1) d1_0 rfl rfl ?_
  refine g_ldcInt C (pc' := 3) (wd hw 4 rfl) d1_1 rfl ?_
  refine g_iand C (pc' := 4) d1_3 rfl rfl ?_
  refine g_iconst C (pc' := 5) (v := (5 : Int32)) d1_4 (by decide) rfl ?_
  refine g_irem C (pc' := 6) d1_5 rfl (by decide) rfl ?_
  rw [e5]
  refine g_istoreN C (pc' := 7) (Ls' := #[.val (.int p), .val (.int (2 : Int32))]) d1_6 rfl rfl rfl ?_
  refine g_iloadN C (pc' := 8) d1_7 rfl rfl ?_
  refine g_ifY C (pc' := 15) d1_8 rfl (by decide) (by decide) rfl ?_
  refine g_iloadN C (pc' := 16) d1_15 rfl rfl ?_
  refine g_iconst C (pc' := 17) (v := (1 : Int32)) d1_16 (by decide) rfl ?_
  refine g_icY C (pc' := 24) d1_17 rfl (by decide) (by decide) rfl ?_
  refine g_iloadN C (pc' := 25) d1_24 rfl rfl ?_
  refine g_iconst C (pc' := 26) (v := (2 : Int32)) d1_25 (by decide) rfl ?_
  refine g_icN C (pc' := 29) d1_26 rfl (by decide) rfl ?_
  refine g_getS C (pc' := 32) (wd hw 34 rfl) Via.refl d1_29 (S_U.ext O.2) rfl ?_
  exact g_areturn C d1_32 rfl rfl rfl rfl (Nat.le_of_ble_eq_true rfl) (Nat.le_of_ble_eq_true rfl) (⟨rfl, rfl⟩)
set_option maxRecDepth 65536 in
set_option maxHeartbeats 40000000 in
theorem ord_U (l : Launch) (Z : State) (a0 : Array Value) (hw : ∀ d ∈ tables_1, d.before a0 Z = true) (n0 : Nat) (h : Heap) (O : Old Z n0 h) (s_PC : Addr) (s_OA : Addr) (s_O : Addr) (s_UA : Addr) (s_U : Addr) (H : En Z s_PC s_OA s_O s_UA s_U) : Con l Z (⟨"java/lang/Enum", "ordinal", "()I"⟩ : MethodName) jdk_37_method_2_code 1 (some .int) ({ frames := 0, cells := 0, slots := 0, locals := 0 } : Room) #[(.ref s_U)] h n0 (fun v h' => v = some (.int (2 : Int32)) ∧ h' = h) := by
  refine Con.mk (Ls := #[.val (.ref s_U)]) (plainFor_of_name pn_2) (fun m => by first | (simp [entryFrame, mkF, argsToLocals, Value.category]; done) | rfl) (fun w C => ?_)
  replace C : Cx w l Z "java/lang/Enum" jdk_37_method_2_code 1 (some .int) "ordinal" ({ frames := 0, cells := 0, slots := 0, locals := 0 } : Room) n0 := C
  obtain ⟨S_PC, E_PC, S_OA, E_OA, S_O, E_O, S_UA, E_UA, S_U, E_U, F_PC_ordinal, F_O_ordinal, F_UA_ordinal, F_U_ordinal, F_OA_ordinal⟩ := id H
  refine g_aloadN C (pc' := 1) d3_0 rfl rfl rfl ?_
  refine g_getF C (pc' := 4) (wd hw 22 rfl) Via.refl d3_1 rfl (F_U_ordinal.ext O.2) rfl ?_
  exact g_ireturn C d3_4 rfl (Nat.le_of_ble_eq_true rfl) (Nat.le_of_ble_eq_true rfl) (⟨rfl, rfl⟩)
set_option maxRecDepth 65536 in
set_option maxHeartbeats 40000000 in
theorem isA_U (l : Launch) (Z : State) (a0 : Array Value) (hw : ∀ d ∈ tables_1, d.before a0 Z = true) (n0 : Nat) (h : Heap) (O : Old Z n0 h) (s_PC : Addr) (s_OA : Addr) (s_O : Addr) (s_UA : Addr) (s_U : Addr) (H : En Z s_PC s_OA s_O s_UA s_U) : Con l Z (⟨"com/example/honeyguide/honeyguide/NodeKindMayBeAssignedToPinLaw", "isAttribute", "(Lcom/example/honeyguide/honeyguide/NodeKind;)Z"⟩ : MethodName) method_4_code 1 (some .boolean) ({ frames := 0, cells := 0, slots := 0, locals := 0 } : Room) #[(.ref s_U)] h n0 (fun v h' => v = some (.int (0 : Int32)) ∧ h' = h) := by
  refine Con.mk (Ls := #[.val (.ref s_U)]) (plainFor_of_name pn_1) (fun m => by first | (simp [entryFrame, mkF, argsToLocals, Value.category]; done) | rfl) (fun w C => ?_)
  replace C : Cx w l Z "com/example/honeyguide/honeyguide/NodeKindMayBeAssignedToPinLaw" method_4_code 1 (some .boolean) "isAttribute" ({ frames := 0, cells := 0, slots := 0, locals := 0 } : Room) n0 := C
  obtain ⟨S_PC, E_PC, S_OA, E_OA, S_O, E_O, S_UA, E_UA, S_U, E_U, F_PC_ordinal, F_O_ordinal, F_UA_ordinal, F_U_ordinal, F_OA_ordinal⟩ := id H
  refine g_aloadN C (pc' := 1) d4_0 rfl rfl rfl ?_
  refine g_getS C (pc' := 4) (wd hw 26 rfl) Via.refl d4_1 (S_UA.ext O.2) rfl ?_
  refine g_acmp C (pc' := 7) (same := false) d4_4 rfl rfl rfl (decide_eq_false fun q => (Ne.symm (Fld.ne F_UA_ordinal F_U_ordinal (own_ine (by decide)))) (Value.ref.inj q)) (by decide) (by decide) ?_
  refine g_aloadN C (pc' := 8) d4_7 rfl rfl rfl ?_
  refine g_getS C (pc' := 11) (wd hw 8 rfl) Via.refl d4_8 (S_OA.ext O.2) rfl ?_
  refine g_acmp C (pc' := 18) (same := false) d4_11 rfl rfl rfl (decide_eq_false fun q => (Fld.ne F_U_ordinal F_OA_ordinal (own_ine (by decide))) (Value.ref.inj q)) (by decide) (by decide) ?_
  refine g_iconst C (pc' := 19) (v := (0 : Int32)) d4_18 (by decide) rfl ?_
  exact g_zreturn C d4_19 rfl rfl (Nat.le_of_ble_eq_true rfl) (Nat.le_of_ble_eq_true rfl) (⟨rfl, rfl⟩)
set_option maxRecDepth 65536 in
set_option maxHeartbeats 40000000 in
theorem side_U (l : Launch) (Z : State) (a0 : Array Value) (hw : ∀ d ∈ tables_1, d.before a0 Z = true) (n0 : Nat) (h : Heap) (O : Old Z n0 h) (s_PC : Addr) (s_OA : Addr) (s_O : Addr) (s_UA : Addr) (s_U : Addr) (H : En Z s_PC s_OA s_O s_UA s_U) : Con l Z (⟨"com/example/honeyguide/honeyguide/NodeKindMayBeAssignedToPinLaw", "side", "(Lcom/example/honeyguide/honeyguide/NodeKind;)I"⟩ : MethodName) method_3_code 1 (some .int) ({ frames := 0, cells := 0, slots := 0, locals := 0 } : Room) #[(.ref s_U)] h n0 (fun v h' => v = some (.int (1 : Int32)) ∧ h' = h) := by
  refine Con.mk (Ls := #[.val (.ref s_U)]) (plainFor_of_name pn_1) (fun m => by first | (simp [entryFrame, mkF, argsToLocals, Value.category]; done) | rfl) (fun w C => ?_)
  replace C : Cx w l Z "com/example/honeyguide/honeyguide/NodeKindMayBeAssignedToPinLaw" method_3_code 1 (some .int) "side" ({ frames := 0, cells := 0, slots := 0, locals := 0 } : Room) n0 := C
  obtain ⟨S_PC, E_PC, S_OA, E_OA, S_O, E_O, S_UA, E_UA, S_U, E_U, F_PC_ordinal, F_O_ordinal, F_UA_ordinal, F_U_ordinal, F_OA_ordinal⟩ := id H
  refine g_aloadN C (pc' := 1) d5_0 rfl rfl rfl ?_
  refine g_getS C (pc' := 4) (wd hw 26 rfl) Via.refl d5_1 (S_UA.ext O.2) rfl ?_
  refine g_acmp C (pc' := 7) (same := false) d5_4 rfl rfl rfl (decide_eq_false fun q => (Ne.symm (Fld.ne F_UA_ordinal F_U_ordinal (own_ine (by decide)))) (Value.ref.inj q)) (by decide) (by decide) ?_
  refine g_aloadN C (pc' := 8) d5_7 rfl rfl rfl ?_
  refine g_getS C (pc' := 11) (wd hw 34 rfl) Via.refl d5_8 (S_U.ext O.2) rfl ?_
  refine g_acmp C (pc' := 14) (same := true) d5_11 rfl rfl rfl (decide_eq_true rfl) (by decide) (by decide) ?_
  refine g_iconst C (pc' := 15) (v := (1 : Int32)) d5_14 (by decide) rfl ?_
  exact g_ireturn C d5_15 rfl (Nat.le_of_ble_eq_true rfl) (Nat.le_of_ble_eq_true rfl) (⟨rfl, rfl⟩)
theorem d1_33 : decode method_2_code 33 = .ok (.iload_n 1, 1) := by decide +kernel
theorem d1_34 : decode method_2_code 34 = .ok (.iconst 3, 1) := by decide +kernel
theorem d1_35 : decode method_2_code 35 = .ok (.if_icmp .ne 7, 3) := by decide +kernel
theorem d1_38 : decode method_2_code 38 = .ok (.getstatic 20, 3) := by decide +kernel
theorem d1_41 : decode method_2_code 41 = .ok (.areturn, 1) := by decide +kernel
set_option maxRecDepth 65536 in
set_option maxHeartbeats 40000000 in
theorem kind_OA (l : Launch) (Z : State) (a0 : Array Value) (hw : ∀ d ∈ tables_1, d.before a0 Z = true) (n0 : Nat) (h : Heap) (O : Old Z n0 h) (s_PC : Addr) (s_OA : Addr) (s_O : Addr) (s_UA : Addr) (s_U : Addr) (H : En Z s_PC s_OA s_O s_UA s_U) (p : Int32) (e5 : ((p &&& (2147483647 : Int32)) % (5 : Int32)) = (3 : Int32)) : Con l Z (⟨"com/example/honeyguide/honeyguide/NodeKindMayBeAssignedToPinLaw", "kind", "(I)Lcom/example/honeyguide/honeyguide/NodeKind;"⟩ : MethodName) method_2_code 2 (some (.object "com/example/honeyguide/honeyguide/NodeKind")) ({ frames := 0, cells := 0, slots := 0, locals := 0 } : Room) #[(.int p)] h n0 (fun v h' => v = some (.ref s_OA) ∧ h' = h) := by
  refine Con.mk (Ls := #[.val (.int p), .unset]) (plainFor_of_name pn_1) (fun m => by first | (simp [entryFrame, mkF, argsToLocals, Value.category]; done) | rfl) (fun w C => ?_)
  replace C : Cx w l Z "com/example/honeyguide/honeyguide/NodeKindMayBeAssignedToPinLaw" method_2_code 2 (some (.object "com/example/honeyguide/honeyguide/NodeKind")) "kind" ({ frames := 0, cells := 0, slots := 0, locals := 0 } : Room) n0 := C
  obtain ⟨S_PC, E_PC, S_OA, E_OA, S_O, E_O, S_UA, E_UA, S_U, E_U, F_PC_ordinal, F_O_ordinal, F_UA_ordinal, F_U_ordinal, F_OA_ordinal⟩ := id H
  refine g_iloadN C (pc' := 1) d1_0 rfl rfl ?_
  refine g_ldcInt C (pc' := 3) (wd hw 4 rfl) d1_1 rfl ?_
  refine g_iand C (pc' := 4) d1_3 rfl rfl ?_
  refine g_iconst C (pc' := 5) (v := (5 : Int32)) d1_4 (by decide) rfl ?_
  refine g_irem C (pc' := 6) d1_5 rfl (by decide) rfl ?_
  rw [e5]
  refine g_istoreN C (pc' := 7) (Ls' := #[.val (.int p), .val (.int (3 : Int32))]) d1_6 rfl rfl rfl ?_
  refine g_iloadN C (pc' := 8) d1_7 rfl rfl ?_
  refine g_ifY C (pc' := 15) d1_8 rfl (by decide) (by decide) rfl ?_
  refine g_iloadN C (pc' := 16) d1_15 rfl rfl ?_
  refine g_iconst C (pc' := 17) (v := (1 : Int32)) d1_16 (by decide) rfl ?_
  refine g_icY C (pc' := 24) d1_17 rfl (by decide) (by decide) rfl ?_
  refine g_iloadN C (pc' := 25) d1_24 rfl rfl ?_
  refine g_iconst C (pc' := 26) (v := (2 : Int32)) d1_25 (by decide) rfl ?_
  refine g_icY C (pc' := 33) d1_26 rfl (by decide) (by decide) rfl ?_
  refine g_iloadN C (pc' := 34) d1_33 rfl rfl ?_
  refine g_iconst C (pc' := 35) (v := (3 : Int32)) d1_34 (by decide) rfl ?_
  refine g_icN C (pc' := 38) d1_35 rfl (by decide) rfl ?_
  refine g_getS C (pc' := 41) (wd hw 8 rfl) Via.refl d1_38 (S_OA.ext O.2) rfl ?_
  exact g_areturn C d1_41 rfl rfl rfl rfl (Nat.le_of_ble_eq_true rfl) (Nat.le_of_ble_eq_true rfl) (⟨rfl, rfl⟩)
set_option maxRecDepth 65536 in
set_option maxHeartbeats 40000000 in
theorem ord_OA (l : Launch) (Z : State) (a0 : Array Value) (hw : ∀ d ∈ tables_1, d.before a0 Z = true) (n0 : Nat) (h : Heap) (O : Old Z n0 h) (s_PC : Addr) (s_OA : Addr) (s_O : Addr) (s_UA : Addr) (s_U : Addr) (H : En Z s_PC s_OA s_O s_UA s_U) : Con l Z (⟨"java/lang/Enum", "ordinal", "()I"⟩ : MethodName) jdk_37_method_2_code 1 (some .int) ({ frames := 0, cells := 0, slots := 0, locals := 0 } : Room) #[(.ref s_OA)] h n0 (fun v h' => v = some (.int (3 : Int32)) ∧ h' = h) := by
  refine Con.mk (Ls := #[.val (.ref s_OA)]) (plainFor_of_name pn_2) (fun m => by first | (simp [entryFrame, mkF, argsToLocals, Value.category]; done) | rfl) (fun w C => ?_)
  replace C : Cx w l Z "java/lang/Enum" jdk_37_method_2_code 1 (some .int) "ordinal" ({ frames := 0, cells := 0, slots := 0, locals := 0 } : Room) n0 := C
  obtain ⟨S_PC, E_PC, S_OA, E_OA, S_O, E_O, S_UA, E_UA, S_U, E_U, F_PC_ordinal, F_O_ordinal, F_UA_ordinal, F_U_ordinal, F_OA_ordinal⟩ := id H
  refine g_aloadN C (pc' := 1) d3_0 rfl rfl rfl ?_
  refine g_getF C (pc' := 4) (wd hw 22 rfl) Via.refl d3_1 rfl (F_OA_ordinal.ext O.2) rfl ?_
  exact g_ireturn C d3_4 rfl (Nat.le_of_ble_eq_true rfl) (Nat.le_of_ble_eq_true rfl) (⟨rfl, rfl⟩)
set_option maxRecDepth 65536 in
set_option maxHeartbeats 40000000 in
theorem isA_OA (l : Launch) (Z : State) (a0 : Array Value) (hw : ∀ d ∈ tables_1, d.before a0 Z = true) (n0 : Nat) (h : Heap) (O : Old Z n0 h) (s_PC : Addr) (s_OA : Addr) (s_O : Addr) (s_UA : Addr) (s_U : Addr) (H : En Z s_PC s_OA s_O s_UA s_U) : Con l Z (⟨"com/example/honeyguide/honeyguide/NodeKindMayBeAssignedToPinLaw", "isAttribute", "(Lcom/example/honeyguide/honeyguide/NodeKind;)Z"⟩ : MethodName) method_4_code 1 (some .boolean) ({ frames := 0, cells := 0, slots := 0, locals := 0 } : Room) #[(.ref s_OA)] h n0 (fun v h' => v = some (.int (1 : Int32)) ∧ h' = h) := by
  refine Con.mk (Ls := #[.val (.ref s_OA)]) (plainFor_of_name pn_1) (fun m => by first | (simp [entryFrame, mkF, argsToLocals, Value.category]; done) | rfl) (fun w C => ?_)
  replace C : Cx w l Z "com/example/honeyguide/honeyguide/NodeKindMayBeAssignedToPinLaw" method_4_code 1 (some .boolean) "isAttribute" ({ frames := 0, cells := 0, slots := 0, locals := 0 } : Room) n0 := C
  obtain ⟨S_PC, E_PC, S_OA, E_OA, S_O, E_O, S_UA, E_UA, S_U, E_U, F_PC_ordinal, F_O_ordinal, F_UA_ordinal, F_U_ordinal, F_OA_ordinal⟩ := id H
  refine g_aloadN C (pc' := 1) d4_0 rfl rfl rfl ?_
  refine g_getS C (pc' := 4) (wd hw 26 rfl) Via.refl d4_1 (S_UA.ext O.2) rfl ?_
  refine g_acmp C (pc' := 7) (same := false) d4_4 rfl rfl rfl (decide_eq_false fun q => (Ne.symm (Fld.ne F_UA_ordinal F_OA_ordinal (own_ine (by decide)))) (Value.ref.inj q)) (by decide) (by decide) ?_
  refine g_aloadN C (pc' := 8) d4_7 rfl rfl rfl ?_
  refine g_getS C (pc' := 11) (wd hw 8 rfl) Via.refl d4_8 (S_OA.ext O.2) rfl ?_
  refine g_acmp C (pc' := 14) (same := true) d4_11 rfl rfl rfl (decide_eq_true rfl) (by decide) (by decide) ?_
  refine g_iconst C (pc' := 15) (v := (1 : Int32)) d4_14 (by decide) rfl ?_
  refine g_goto C (pc' := 19) d4_15 (by decide) rfl ?_
  exact g_zreturn C d4_19 rfl rfl (Nat.le_of_ble_eq_true rfl) (Nat.le_of_ble_eq_true rfl) (⟨rfl, rfl⟩)
theorem d5_30 : decode method_3_code 30 = .ok (.iconst 2, 1) := by decide +kernel
theorem d5_31 : decode method_3_code 31 = .ok (.ireturn, 1) := by decide +kernel
set_option maxRecDepth 65536 in
set_option maxHeartbeats 40000000 in
theorem side_OA (l : Launch) (Z : State) (a0 : Array Value) (hw : ∀ d ∈ tables_1, d.before a0 Z = true) (n0 : Nat) (h : Heap) (O : Old Z n0 h) (s_PC : Addr) (s_OA : Addr) (s_O : Addr) (s_UA : Addr) (s_U : Addr) (H : En Z s_PC s_OA s_O s_UA s_U) : Con l Z (⟨"com/example/honeyguide/honeyguide/NodeKindMayBeAssignedToPinLaw", "side", "(Lcom/example/honeyguide/honeyguide/NodeKind;)I"⟩ : MethodName) method_3_code 1 (some .int) ({ frames := 0, cells := 0, slots := 0, locals := 0 } : Room) #[(.ref s_OA)] h n0 (fun v h' => v = some (.int (2 : Int32)) ∧ h' = h) := by
  refine Con.mk (Ls := #[.val (.ref s_OA)]) (plainFor_of_name pn_1) (fun m => by first | (simp [entryFrame, mkF, argsToLocals, Value.category]; done) | rfl) (fun w C => ?_)
  replace C : Cx w l Z "com/example/honeyguide/honeyguide/NodeKindMayBeAssignedToPinLaw" method_3_code 1 (some .int) "side" ({ frames := 0, cells := 0, slots := 0, locals := 0 } : Room) n0 := C
  obtain ⟨S_PC, E_PC, S_OA, E_OA, S_O, E_O, S_UA, E_UA, S_U, E_U, F_PC_ordinal, F_O_ordinal, F_UA_ordinal, F_U_ordinal, F_OA_ordinal⟩ := id H
  refine g_aloadN C (pc' := 1) d5_0 rfl rfl rfl ?_
  refine g_getS C (pc' := 4) (wd hw 26 rfl) Via.refl d5_1 (S_UA.ext O.2) rfl ?_
  refine g_acmp C (pc' := 7) (same := false) d5_4 rfl rfl rfl (decide_eq_false fun q => (Ne.symm (Fld.ne F_UA_ordinal F_OA_ordinal (own_ine (by decide)))) (Value.ref.inj q)) (by decide) (by decide) ?_
  refine g_aloadN C (pc' := 8) d5_7 rfl rfl rfl ?_
  refine g_getS C (pc' := 11) (wd hw 34 rfl) Via.refl d5_8 (S_U.ext O.2) rfl ?_
  refine g_acmp C (pc' := 16) (same := false) d5_11 rfl rfl rfl (decide_eq_false fun q => (Ne.symm (Fld.ne F_U_ordinal F_OA_ordinal (own_ine (by decide)))) (Value.ref.inj q)) (by decide) (by decide) ?_
  refine g_aloadN C (pc' := 17) d5_16 rfl rfl rfl ?_
  refine g_getS C (pc' := 20) (wd hw 8 rfl) Via.refl d5_17 (S_OA.ext O.2) rfl ?_
  refine g_acmp C (pc' := 30) (same := true) d5_20 rfl rfl rfl (decide_eq_true rfl) (by decide) (by decide) ?_
  refine g_iconst C (pc' := 31) (v := (2 : Int32)) d5_30 (by decide) rfl ?_
  exact g_ireturn C d5_31 rfl (Nat.le_of_ble_eq_true rfl) (Nat.le_of_ble_eq_true rfl) (⟨rfl, rfl⟩)
theorem d1_42 : decode method_2_code 42 = .ok (.getstatic 23, 3) := by decide +kernel
theorem d1_45 : decode method_2_code 45 = .ok (.areturn, 1) := by decide +kernel
set_option maxRecDepth 65536 in
set_option maxHeartbeats 40000000 in
theorem kind_O (l : Launch) (Z : State) (a0 : Array Value) (hw : ∀ d ∈ tables_1, d.before a0 Z = true) (n0 : Nat) (h : Heap) (O : Old Z n0 h) (s_PC : Addr) (s_OA : Addr) (s_O : Addr) (s_UA : Addr) (s_U : Addr) (H : En Z s_PC s_OA s_O s_UA s_U) (p : Int32) (e5 : ((p &&& (2147483647 : Int32)) % (5 : Int32)) = (4 : Int32)) : Con l Z (⟨"com/example/honeyguide/honeyguide/NodeKindMayBeAssignedToPinLaw", "kind", "(I)Lcom/example/honeyguide/honeyguide/NodeKind;"⟩ : MethodName) method_2_code 2 (some (.object "com/example/honeyguide/honeyguide/NodeKind")) ({ frames := 0, cells := 0, slots := 0, locals := 0 } : Room) #[(.int p)] h n0 (fun v h' => v = some (.ref s_O) ∧ h' = h) := by
  refine Con.mk (Ls := #[.val (.int p), .unset]) (plainFor_of_name pn_1) (fun m => by first | (simp [entryFrame, mkF, argsToLocals, Value.category]; done) | rfl) (fun w C => ?_)
  replace C : Cx w l Z "com/example/honeyguide/honeyguide/NodeKindMayBeAssignedToPinLaw" method_2_code 2 (some (.object "com/example/honeyguide/honeyguide/NodeKind")) "kind" ({ frames := 0, cells := 0, slots := 0, locals := 0 } : Room) n0 := C
  obtain ⟨S_PC, E_PC, S_OA, E_OA, S_O, E_O, S_UA, E_UA, S_U, E_U, F_PC_ordinal, F_O_ordinal, F_UA_ordinal, F_U_ordinal, F_OA_ordinal⟩ := id H
  refine g_iloadN C (pc' := 1) d1_0 rfl rfl ?_
  refine g_ldcInt C (pc' := 3) (wd hw 4 rfl) d1_1 rfl ?_
  refine g_iand C (pc' := 4) d1_3 rfl rfl ?_
  refine g_iconst C (pc' := 5) (v := (5 : Int32)) d1_4 (by decide) rfl ?_
  refine g_irem C (pc' := 6) d1_5 rfl (by decide) rfl ?_
  rw [e5]
  refine g_istoreN C (pc' := 7) (Ls' := #[.val (.int p), .val (.int (4 : Int32))]) d1_6 rfl rfl rfl ?_
  refine g_iloadN C (pc' := 8) d1_7 rfl rfl ?_
  refine g_ifY C (pc' := 15) d1_8 rfl (by decide) (by decide) rfl ?_
  refine g_iloadN C (pc' := 16) d1_15 rfl rfl ?_
  refine g_iconst C (pc' := 17) (v := (1 : Int32)) d1_16 (by decide) rfl ?_
  refine g_icY C (pc' := 24) d1_17 rfl (by decide) (by decide) rfl ?_
  refine g_iloadN C (pc' := 25) d1_24 rfl rfl ?_
  refine g_iconst C (pc' := 26) (v := (2 : Int32)) d1_25 (by decide) rfl ?_
  refine g_icY C (pc' := 33) d1_26 rfl (by decide) (by decide) rfl ?_
  refine g_iloadN C (pc' := 34) d1_33 rfl rfl ?_
  refine g_iconst C (pc' := 35) (v := (3 : Int32)) d1_34 (by decide) rfl ?_
  refine g_icY C (pc' := 42) d1_35 rfl (by decide) (by decide) rfl ?_
  refine g_getS C (pc' := 45) (wd hw 24 rfl) Via.refl d1_42 (S_O.ext O.2) rfl ?_
  exact g_areturn C d1_45 rfl rfl rfl rfl (Nat.le_of_ble_eq_true rfl) (Nat.le_of_ble_eq_true rfl) (⟨rfl, rfl⟩)
set_option maxRecDepth 65536 in
set_option maxHeartbeats 40000000 in
theorem ord_O (l : Launch) (Z : State) (a0 : Array Value) (hw : ∀ d ∈ tables_1, d.before a0 Z = true) (n0 : Nat) (h : Heap) (O : Old Z n0 h) (s_PC : Addr) (s_OA : Addr) (s_O : Addr) (s_UA : Addr) (s_U : Addr) (H : En Z s_PC s_OA s_O s_UA s_U) : Con l Z (⟨"java/lang/Enum", "ordinal", "()I"⟩ : MethodName) jdk_37_method_2_code 1 (some .int) ({ frames := 0, cells := 0, slots := 0, locals := 0 } : Room) #[(.ref s_O)] h n0 (fun v h' => v = some (.int (4 : Int32)) ∧ h' = h) := by
  refine Con.mk (Ls := #[.val (.ref s_O)]) (plainFor_of_name pn_2) (fun m => by first | (simp [entryFrame, mkF, argsToLocals, Value.category]; done) | rfl) (fun w C => ?_)
  replace C : Cx w l Z "java/lang/Enum" jdk_37_method_2_code 1 (some .int) "ordinal" ({ frames := 0, cells := 0, slots := 0, locals := 0 } : Room) n0 := C
  obtain ⟨S_PC, E_PC, S_OA, E_OA, S_O, E_O, S_UA, E_UA, S_U, E_U, F_PC_ordinal, F_O_ordinal, F_UA_ordinal, F_U_ordinal, F_OA_ordinal⟩ := id H
  refine g_aloadN C (pc' := 1) d3_0 rfl rfl rfl ?_
  refine g_getF C (pc' := 4) (wd hw 22 rfl) Via.refl d3_1 rfl (F_O_ordinal.ext O.2) rfl ?_
  exact g_ireturn C d3_4 rfl (Nat.le_of_ble_eq_true rfl) (Nat.le_of_ble_eq_true rfl) (⟨rfl, rfl⟩)
set_option maxRecDepth 65536 in
set_option maxHeartbeats 40000000 in
theorem isA_O (l : Launch) (Z : State) (a0 : Array Value) (hw : ∀ d ∈ tables_1, d.before a0 Z = true) (n0 : Nat) (h : Heap) (O : Old Z n0 h) (s_PC : Addr) (s_OA : Addr) (s_O : Addr) (s_UA : Addr) (s_U : Addr) (H : En Z s_PC s_OA s_O s_UA s_U) : Con l Z (⟨"com/example/honeyguide/honeyguide/NodeKindMayBeAssignedToPinLaw", "isAttribute", "(Lcom/example/honeyguide/honeyguide/NodeKind;)Z"⟩ : MethodName) method_4_code 1 (some .boolean) ({ frames := 0, cells := 0, slots := 0, locals := 0 } : Room) #[(.ref s_O)] h n0 (fun v h' => v = some (.int (0 : Int32)) ∧ h' = h) := by
  refine Con.mk (Ls := #[.val (.ref s_O)]) (plainFor_of_name pn_1) (fun m => by first | (simp [entryFrame, mkF, argsToLocals, Value.category]; done) | rfl) (fun w C => ?_)
  replace C : Cx w l Z "com/example/honeyguide/honeyguide/NodeKindMayBeAssignedToPinLaw" method_4_code 1 (some .boolean) "isAttribute" ({ frames := 0, cells := 0, slots := 0, locals := 0 } : Room) n0 := C
  obtain ⟨S_PC, E_PC, S_OA, E_OA, S_O, E_O, S_UA, E_UA, S_U, E_U, F_PC_ordinal, F_O_ordinal, F_UA_ordinal, F_U_ordinal, F_OA_ordinal⟩ := id H
  refine g_aloadN C (pc' := 1) d4_0 rfl rfl rfl ?_
  refine g_getS C (pc' := 4) (wd hw 26 rfl) Via.refl d4_1 (S_UA.ext O.2) rfl ?_
  refine g_acmp C (pc' := 7) (same := false) d4_4 rfl rfl rfl (decide_eq_false fun q => (Ne.symm (Fld.ne F_UA_ordinal F_O_ordinal (own_ine (by decide)))) (Value.ref.inj q)) (by decide) (by decide) ?_
  refine g_aloadN C (pc' := 8) d4_7 rfl rfl rfl ?_
  refine g_getS C (pc' := 11) (wd hw 8 rfl) Via.refl d4_8 (S_OA.ext O.2) rfl ?_
  refine g_acmp C (pc' := 18) (same := false) d4_11 rfl rfl rfl (decide_eq_false fun q => (Ne.symm (Fld.ne F_OA_ordinal F_O_ordinal (own_ine (by decide)))) (Value.ref.inj q)) (by decide) (by decide) ?_
  refine g_iconst C (pc' := 19) (v := (0 : Int32)) d4_18 (by decide) rfl ?_
  exact g_zreturn C d4_19 rfl rfl (Nat.le_of_ble_eq_true rfl) (Nat.le_of_ble_eq_true rfl) (⟨rfl, rfl⟩)
set_option maxRecDepth 65536 in
set_option maxHeartbeats 40000000 in
theorem side_O (l : Launch) (Z : State) (a0 : Array Value) (hw : ∀ d ∈ tables_1, d.before a0 Z = true) (n0 : Nat) (h : Heap) (O : Old Z n0 h) (s_PC : Addr) (s_OA : Addr) (s_O : Addr) (s_UA : Addr) (s_U : Addr) (H : En Z s_PC s_OA s_O s_UA s_U) : Con l Z (⟨"com/example/honeyguide/honeyguide/NodeKindMayBeAssignedToPinLaw", "side", "(Lcom/example/honeyguide/honeyguide/NodeKind;)I"⟩ : MethodName) method_3_code 1 (some .int) ({ frames := 0, cells := 0, slots := 0, locals := 0 } : Room) #[(.ref s_O)] h n0 (fun v h' => v = some (.int (2 : Int32)) ∧ h' = h) := by
  refine Con.mk (Ls := #[.val (.ref s_O)]) (plainFor_of_name pn_1) (fun m => by first | (simp [entryFrame, mkF, argsToLocals, Value.category]; done) | rfl) (fun w C => ?_)
  replace C : Cx w l Z "com/example/honeyguide/honeyguide/NodeKindMayBeAssignedToPinLaw" method_3_code 1 (some .int) "side" ({ frames := 0, cells := 0, slots := 0, locals := 0 } : Room) n0 := C
  obtain ⟨S_PC, E_PC, S_OA, E_OA, S_O, E_O, S_UA, E_UA, S_U, E_U, F_PC_ordinal, F_O_ordinal, F_UA_ordinal, F_U_ordinal, F_OA_ordinal⟩ := id H
  refine g_aloadN C (pc' := 1) d5_0 rfl rfl rfl ?_
  refine g_getS C (pc' := 4) (wd hw 26 rfl) Via.refl d5_1 (S_UA.ext O.2) rfl ?_
  refine g_acmp C (pc' := 7) (same := false) d5_4 rfl rfl rfl (decide_eq_false fun q => (Ne.symm (Fld.ne F_UA_ordinal F_O_ordinal (own_ine (by decide)))) (Value.ref.inj q)) (by decide) (by decide) ?_
  refine g_aloadN C (pc' := 8) d5_7 rfl rfl rfl ?_
  refine g_getS C (pc' := 11) (wd hw 34 rfl) Via.refl d5_8 (S_U.ext O.2) rfl ?_
  refine g_acmp C (pc' := 16) (same := false) d5_11 rfl rfl rfl (decide_eq_false fun q => (Ne.symm (Fld.ne F_U_ordinal F_O_ordinal (own_ine (by decide)))) (Value.ref.inj q)) (by decide) (by decide) ?_
  refine g_aloadN C (pc' := 17) d5_16 rfl rfl rfl ?_
  refine g_getS C (pc' := 20) (wd hw 8 rfl) Via.refl d5_17 (S_OA.ext O.2) rfl ?_
  refine g_acmp C (pc' := 23) (same := false) d5_20 rfl rfl rfl (decide_eq_false fun q => (Ne.symm (Fld.ne F_OA_ordinal F_O_ordinal (own_ine (by decide)))) (Value.ref.inj q)) (by decide) (by decide) ?_
  refine g_aloadN C (pc' := 24) d5_23 rfl rfl rfl ?_
  refine g_getS C (pc' := 27) (wd hw 24 rfl) Via.refl d5_24 (S_O.ext O.2) rfl ?_
  refine g_acmp C (pc' := 30) (same := true) d5_27 rfl rfl rfl (decide_eq_true rfl) (by decide) (by decide) ?_
  refine g_iconst C (pc' := 31) (v := (2 : Int32)) d5_30 (by decide) rfl ?_
  exact g_ireturn C d5_31 rfl (Nat.le_of_ble_eq_true rfl) (Nat.le_of_ble_eq_true rfl) (⟨rfl, rfl⟩)
theorem d2_0 : decode prog_6_method_4_code 0 = .ok (.aload_n 0, 1) := by decide +kernel
theorem d2_1 : decode prog_6_method_4_code 1 = .ok (.invokevirtual 38, 3) := by decide +kernel
theorem pd_2 : parseMethodDescriptor "()I" = some ⟨[], some .int⟩ := by decide +kernel
theorem d2_4 : decode prog_6_method_4_code 4 = .ok (.tableswitch 36 0 4 #[46, 50, 72, 87, 109], 36) := by decide +kernel
theorem d2_50 : decode prog_6_method_4_code 50 = .ok (.iconst 0, 1) := by decide +kernel
theorem d2_51 : decode prog_6_method_4_code 51 = .ok (.goto 74, 3) := by decide +kernel
theorem d2_125 : decode prog_6_method_4_code 125 = .ok (.ireturn, 1) := by decide +kernel
theorem pn_0 : plainName "com/example/honeyguide/honeyguide/NodeKind" = true := by first | (simp [plainName, overriddenIn]; done) | decide +kernel
set_option maxRecDepth 65536 in
set_option maxHeartbeats 40000000 in
theorem may_PC_PC (l : Launch) (Z : State) (a0 : Array Value) (hw : ∀ d ∈ tables_1, d.before a0 Z = true) (n0 : Nat) (h : Heap) (O : Old Z n0 h) (s_PC : Addr) (s_OA : Addr) (s_O : Addr) (s_UA : Addr) (s_U : Addr) (H : En Z s_PC s_OA s_O s_UA s_U) : Con l Z (⟨"com/example/honeyguide/honeyguide/NodeKind", "mayBeAssignedTo", "(Lcom/example/honeyguide/honeyguide/NodeKind;)Z"⟩ : MethodName) prog_6_method_4_code 2 (some .boolean) ({ frames := 1, cells := 0, slots := 0, locals := 12 } : Room) #[(.ref s_PC), (.ref s_PC)] h n0 (fun v h' => v = some (.int (0 : Int32)) ∧ h' = h) := by
  refine Con.mk (Ls := #[.val (.ref s_PC), .val (.ref s_PC)]) (plainFor_of_name pn_0) (fun m => by first | (simp [entryFrame, mkF, argsToLocals, Value.category]; done) | rfl) (fun w C => ?_)
  replace C : Cx w l Z "com/example/honeyguide/honeyguide/NodeKind" prog_6_method_4_code 2 (some .boolean) "mayBeAssignedTo" ({ frames := 1, cells := 0, slots := 0, locals := 12 } : Room) n0 := C
  obtain ⟨S_PC, E_PC, S_OA, E_OA, S_O, E_O, S_UA, E_UA, S_U, E_U, F_PC_ordinal, F_O_ordinal, F_UA_ordinal, F_U_ordinal, F_OA_ordinal⟩ := id H
  refine g_aloadN C (pc' := 1) d2_0 rfl rfl rfl ?_
  refine g_virtualUp C (pc' := 4) (k' := 0) (n' := 0) (argsL := []) (rest := []) (wd hw 15 rfl) (wd hw 16 rfl) (wd hw 17 rfl) (by decide) (wd hw 19 rfl) (wd hw 18 rfl) (wd hw 20 rfl) (wd hw 21 rfl) d2_1 pd_2 rfl rfl rfl (E_PC.ext O.2) (ord_PC l Z a0 hw n0 h O s_PC s_OA s_O s_UA s_U H) (Nat.le_of_ble_eq_true rfl) (Nat.le_of_ble_eq_true rfl) (Nat.le_of_ble_eq_true rfl) (Nat.le_of_ble_eq_true rfl) rfl rfl rfl (fun v2 h1 q3 => ?_)
  obtain ⟨rfl, eh1⟩ := q3
  subst h1
  show G w _ h 0 0 4 #[.val (.ref s_PC), .val (.ref s_PC)] [(.int (0 : Int32))]
  refine g_tsw C (pc' := 50) d2_4 rfl (by decide) rfl (by decide) rfl ?_
  refine g_iconst C (pc' := 51) (v := (0 : Int32)) d2_50 (by decide) rfl ?_
  refine g_goto C (pc' := 125) d2_51 (by decide) rfl ?_
  exact g_zreturn C d2_125 rfl rfl (Nat.le_of_ble_eq_true rfl) (Nat.le_of_ble_eq_true rfl) (⟨rfl, rfl⟩)
set_option maxRecDepth 65536 in
set_option maxHeartbeats 40000000 in
theorem may_PC_UA (l : Launch) (Z : State) (a0 : Array Value) (hw : ∀ d ∈ tables_1, d.before a0 Z = true) (n0 : Nat) (h : Heap) (O : Old Z n0 h) (s_PC : Addr) (s_OA : Addr) (s_O : Addr) (s_UA : Addr) (s_U : Addr) (H : En Z s_PC s_OA s_O s_UA s_U) : Con l Z (⟨"com/example/honeyguide/honeyguide/NodeKind", "mayBeAssignedTo", "(Lcom/example/honeyguide/honeyguide/NodeKind;)Z"⟩ : MethodName) prog_6_method_4_code 2 (some .boolean) ({ frames := 1, cells := 0, slots := 0, locals := 12 } : Room) #[(.ref s_PC), (.ref s_UA)] h n0 (fun v h' => v = some (.int (0 : Int32)) ∧ h' = h) := by
  refine Con.mk (Ls := #[.val (.ref s_PC), .val (.ref s_UA)]) (plainFor_of_name pn_0) (fun m => by first | (simp [entryFrame, mkF, argsToLocals, Value.category]; done) | rfl) (fun w C => ?_)
  replace C : Cx w l Z "com/example/honeyguide/honeyguide/NodeKind" prog_6_method_4_code 2 (some .boolean) "mayBeAssignedTo" ({ frames := 1, cells := 0, slots := 0, locals := 12 } : Room) n0 := C
  obtain ⟨S_PC, E_PC, S_OA, E_OA, S_O, E_O, S_UA, E_UA, S_U, E_U, F_PC_ordinal, F_O_ordinal, F_UA_ordinal, F_U_ordinal, F_OA_ordinal⟩ := id H
  refine g_aloadN C (pc' := 1) d2_0 rfl rfl rfl ?_
  refine g_virtualUp C (pc' := 4) (k' := 0) (n' := 0) (argsL := []) (rest := []) (wd hw 15 rfl) (wd hw 16 rfl) (wd hw 17 rfl) (by decide) (wd hw 19 rfl) (wd hw 18 rfl) (wd hw 20 rfl) (wd hw 21 rfl) d2_1 pd_2 rfl rfl rfl (E_PC.ext O.2) (ord_PC l Z a0 hw n0 h O s_PC s_OA s_O s_UA s_U H) (Nat.le_of_ble_eq_true rfl) (Nat.le_of_ble_eq_true rfl) (Nat.le_of_ble_eq_true rfl) (Nat.le_of_ble_eq_true rfl) rfl rfl rfl (fun v5 h4 q6 => ?_)
  obtain ⟨rfl, eh4⟩ := q6
  subst h4
  show G w _ h 0 0 4 #[.val (.ref s_PC), .val (.ref s_UA)] [(.int (0 : Int32))]
  refine g_tsw C (pc' := 50) d2_4 rfl (by decide) rfl (by decide) rfl ?_
  refine g_iconst C (pc' := 51) (v := (0 : Int32)) d2_50 (by decide) rfl ?_
  refine g_goto C (pc' := 125) d2_51 (by decide) rfl ?_
  exact g_zreturn C d2_125 rfl rfl (Nat.le_of_ble_eq_true rfl) (Nat.le_of_ble_eq_true rfl) (⟨rfl, rfl⟩)
set_option maxRecDepth 65536 in
set_option maxHeartbeats 40000000 in
theorem may_PC_U (l : Launch) (Z : State) (a0 : Array Value) (hw : ∀ d ∈ tables_1, d.before a0 Z = true) (n0 : Nat) (h : Heap) (O : Old Z n0 h) (s_PC : Addr) (s_OA : Addr) (s_O : Addr) (s_UA : Addr) (s_U : Addr) (H : En Z s_PC s_OA s_O s_UA s_U) : Con l Z (⟨"com/example/honeyguide/honeyguide/NodeKind", "mayBeAssignedTo", "(Lcom/example/honeyguide/honeyguide/NodeKind;)Z"⟩ : MethodName) prog_6_method_4_code 2 (some .boolean) ({ frames := 1, cells := 0, slots := 0, locals := 12 } : Room) #[(.ref s_PC), (.ref s_U)] h n0 (fun v h' => v = some (.int (0 : Int32)) ∧ h' = h) := by
  refine Con.mk (Ls := #[.val (.ref s_PC), .val (.ref s_U)]) (plainFor_of_name pn_0) (fun m => by first | (simp [entryFrame, mkF, argsToLocals, Value.category]; done) | rfl) (fun w C => ?_)
  replace C : Cx w l Z "com/example/honeyguide/honeyguide/NodeKind" prog_6_method_4_code 2 (some .boolean) "mayBeAssignedTo" ({ frames := 1, cells := 0, slots := 0, locals := 12 } : Room) n0 := C
  obtain ⟨S_PC, E_PC, S_OA, E_OA, S_O, E_O, S_UA, E_UA, S_U, E_U, F_PC_ordinal, F_O_ordinal, F_UA_ordinal, F_U_ordinal, F_OA_ordinal⟩ := id H
  refine g_aloadN C (pc' := 1) d2_0 rfl rfl rfl ?_
  refine g_virtualUp C (pc' := 4) (k' := 0) (n' := 0) (argsL := []) (rest := []) (wd hw 15 rfl) (wd hw 16 rfl) (wd hw 17 rfl) (by decide) (wd hw 19 rfl) (wd hw 18 rfl) (wd hw 20 rfl) (wd hw 21 rfl) d2_1 pd_2 rfl rfl rfl (E_PC.ext O.2) (ord_PC l Z a0 hw n0 h O s_PC s_OA s_O s_UA s_U H) (Nat.le_of_ble_eq_true rfl) (Nat.le_of_ble_eq_true rfl) (Nat.le_of_ble_eq_true rfl) (Nat.le_of_ble_eq_true rfl) rfl rfl rfl (fun v8 h7 q9 => ?_)
  obtain ⟨rfl, eh7⟩ := q9
  subst h7
  show G w _ h 0 0 4 #[.val (.ref s_PC), .val (.ref s_U)] [(.int (0 : Int32))]
  refine g_tsw C (pc' := 50) d2_4 rfl (by decide) rfl (by decide) rfl ?_
  refine g_iconst C (pc' := 51) (v := (0 : Int32)) d2_50 (by decide) rfl ?_
  refine g_goto C (pc' := 125) d2_51 (by decide) rfl ?_
  exact g_zreturn C d2_125 rfl rfl (Nat.le_of_ble_eq_true rfl) (Nat.le_of_ble_eq_true rfl) (⟨rfl, rfl⟩)
set_option maxRecDepth 65536 in
set_option maxHeartbeats 40000000 in
theorem may_PC_OA (l : Launch) (Z : State) (a0 : Array Value) (hw : ∀ d ∈ tables_1, d.before a0 Z = true) (n0 : Nat) (h : Heap) (O : Old Z n0 h) (s_PC : Addr) (s_OA : Addr) (s_O : Addr) (s_UA : Addr) (s_U : Addr) (H : En Z s_PC s_OA s_O s_UA s_U) : Con l Z (⟨"com/example/honeyguide/honeyguide/NodeKind", "mayBeAssignedTo", "(Lcom/example/honeyguide/honeyguide/NodeKind;)Z"⟩ : MethodName) prog_6_method_4_code 2 (some .boolean) ({ frames := 1, cells := 0, slots := 0, locals := 12 } : Room) #[(.ref s_PC), (.ref s_OA)] h n0 (fun v h' => v = some (.int (0 : Int32)) ∧ h' = h) := by
  refine Con.mk (Ls := #[.val (.ref s_PC), .val (.ref s_OA)]) (plainFor_of_name pn_0) (fun m => by first | (simp [entryFrame, mkF, argsToLocals, Value.category]; done) | rfl) (fun w C => ?_)
  replace C : Cx w l Z "com/example/honeyguide/honeyguide/NodeKind" prog_6_method_4_code 2 (some .boolean) "mayBeAssignedTo" ({ frames := 1, cells := 0, slots := 0, locals := 12 } : Room) n0 := C
  obtain ⟨S_PC, E_PC, S_OA, E_OA, S_O, E_O, S_UA, E_UA, S_U, E_U, F_PC_ordinal, F_O_ordinal, F_UA_ordinal, F_U_ordinal, F_OA_ordinal⟩ := id H
  refine g_aloadN C (pc' := 1) d2_0 rfl rfl rfl ?_
  refine g_virtualUp C (pc' := 4) (k' := 0) (n' := 0) (argsL := []) (rest := []) (wd hw 15 rfl) (wd hw 16 rfl) (wd hw 17 rfl) (by decide) (wd hw 19 rfl) (wd hw 18 rfl) (wd hw 20 rfl) (wd hw 21 rfl) d2_1 pd_2 rfl rfl rfl (E_PC.ext O.2) (ord_PC l Z a0 hw n0 h O s_PC s_OA s_O s_UA s_U H) (Nat.le_of_ble_eq_true rfl) (Nat.le_of_ble_eq_true rfl) (Nat.le_of_ble_eq_true rfl) (Nat.le_of_ble_eq_true rfl) rfl rfl rfl (fun v11 h10 q12 => ?_)
  obtain ⟨rfl, eh10⟩ := q12
  subst h10
  show G w _ h 0 0 4 #[.val (.ref s_PC), .val (.ref s_OA)] [(.int (0 : Int32))]
  refine g_tsw C (pc' := 50) d2_4 rfl (by decide) rfl (by decide) rfl ?_
  refine g_iconst C (pc' := 51) (v := (0 : Int32)) d2_50 (by decide) rfl ?_
  refine g_goto C (pc' := 125) d2_51 (by decide) rfl ?_
  exact g_zreturn C d2_125 rfl rfl (Nat.le_of_ble_eq_true rfl) (Nat.le_of_ble_eq_true rfl) (⟨rfl, rfl⟩)
set_option maxRecDepth 65536 in
set_option maxHeartbeats 40000000 in
theorem may_PC_O (l : Launch) (Z : State) (a0 : Array Value) (hw : ∀ d ∈ tables_1, d.before a0 Z = true) (n0 : Nat) (h : Heap) (O : Old Z n0 h) (s_PC : Addr) (s_OA : Addr) (s_O : Addr) (s_UA : Addr) (s_U : Addr) (H : En Z s_PC s_OA s_O s_UA s_U) : Con l Z (⟨"com/example/honeyguide/honeyguide/NodeKind", "mayBeAssignedTo", "(Lcom/example/honeyguide/honeyguide/NodeKind;)Z"⟩ : MethodName) prog_6_method_4_code 2 (some .boolean) ({ frames := 1, cells := 0, slots := 0, locals := 12 } : Room) #[(.ref s_PC), (.ref s_O)] h n0 (fun v h' => v = some (.int (0 : Int32)) ∧ h' = h) := by
  refine Con.mk (Ls := #[.val (.ref s_PC), .val (.ref s_O)]) (plainFor_of_name pn_0) (fun m => by first | (simp [entryFrame, mkF, argsToLocals, Value.category]; done) | rfl) (fun w C => ?_)
  replace C : Cx w l Z "com/example/honeyguide/honeyguide/NodeKind" prog_6_method_4_code 2 (some .boolean) "mayBeAssignedTo" ({ frames := 1, cells := 0, slots := 0, locals := 12 } : Room) n0 := C
  obtain ⟨S_PC, E_PC, S_OA, E_OA, S_O, E_O, S_UA, E_UA, S_U, E_U, F_PC_ordinal, F_O_ordinal, F_UA_ordinal, F_U_ordinal, F_OA_ordinal⟩ := id H
  refine g_aloadN C (pc' := 1) d2_0 rfl rfl rfl ?_
  refine g_virtualUp C (pc' := 4) (k' := 0) (n' := 0) (argsL := []) (rest := []) (wd hw 15 rfl) (wd hw 16 rfl) (wd hw 17 rfl) (by decide) (wd hw 19 rfl) (wd hw 18 rfl) (wd hw 20 rfl) (wd hw 21 rfl) d2_1 pd_2 rfl rfl rfl (E_PC.ext O.2) (ord_PC l Z a0 hw n0 h O s_PC s_OA s_O s_UA s_U H) (Nat.le_of_ble_eq_true rfl) (Nat.le_of_ble_eq_true rfl) (Nat.le_of_ble_eq_true rfl) (Nat.le_of_ble_eq_true rfl) rfl rfl rfl (fun v14 h13 q15 => ?_)
  obtain ⟨rfl, eh13⟩ := q15
  subst h13
  show G w _ h 0 0 4 #[.val (.ref s_PC), .val (.ref s_O)] [(.int (0 : Int32))]
  refine g_tsw C (pc' := 50) d2_4 rfl (by decide) rfl (by decide) rfl ?_
  refine g_iconst C (pc' := 51) (v := (0 : Int32)) d2_50 (by decide) rfl ?_
  refine g_goto C (pc' := 125) d2_51 (by decide) rfl ?_
  exact g_zreturn C d2_125 rfl rfl (Nat.le_of_ble_eq_true rfl) (Nat.le_of_ble_eq_true rfl) (⟨rfl, rfl⟩)
theorem d2_54 : decode prog_6_method_4_code 54 = .ok (.aload_n 1, 1) := by decide +kernel
theorem d2_55 : decode prog_6_method_4_code 55 = .ok (.getstatic 7, 3) := by decide +kernel
theorem d2_58 : decode prog_6_method_4_code 58 = .ok (.if_acmp .eq 10, 3) := by decide +kernel
theorem d2_61 : decode prog_6_method_4_code 61 = .ok (.aload_n 1, 1) := by decide +kernel
theorem d2_62 : decode prog_6_method_4_code 62 = .ok (.getstatic 3, 3) := by decide +kernel
theorem d2_65 : decode prog_6_method_4_code 65 = .ok (.if_acmp .ne 7, 3) := by decide +kernel
theorem d2_68 : decode prog_6_method_4_code 68 = .ok (.iconst 1, 1) := by decide +kernel
theorem d2_69 : decode prog_6_method_4_code 69 = .ok (.goto 56, 3) := by decide +kernel
set_option maxRecDepth 65536 in
set_option maxHeartbeats 40000000 in
theorem may_UA_PC (l : Launch) (Z : State) (a0 : Array Value) (hw : ∀ d ∈ tables_1, d.before a0 Z = true) (n0 : Nat) (h : Heap) (O : Old Z n0 h) (s_PC : Addr) (s_OA : Addr) (s_O : Addr) (s_UA : Addr) (s_U : Addr) (H : En Z s_PC s_OA s_O s_UA s_U) : Con l Z (⟨"com/example/honeyguide/honeyguide/NodeKind", "mayBeAssignedTo", "(Lcom/example/honeyguide/honeyguide/NodeKind;)Z"⟩ : MethodName) prog_6_method_4_code 2 (some .boolean) ({ frames := 1, cells := 0, slots := 0, locals := 12 } : Room) #[(.ref s_UA), (.ref s_PC)] h n0 (fun v h' => v = some (.int (1 : Int32)) ∧ h' = h) := by
  refine Con.mk (Ls := #[.val (.ref s_UA), .val (.ref s_PC)]) (plainFor_of_name pn_0) (fun m => by first | (simp [entryFrame, mkF, argsToLocals, Value.category]; done) | rfl) (fun w C => ?_)
  replace C : Cx w l Z "com/example/honeyguide/honeyguide/NodeKind" prog_6_method_4_code 2 (some .boolean) "mayBeAssignedTo" ({ frames := 1, cells := 0, slots := 0, locals := 12 } : Room) n0 := C
  obtain ⟨S_PC, E_PC, S_OA, E_OA, S_O, E_O, S_UA, E_UA, S_U, E_U, F_PC_ordinal, F_O_ordinal, F_UA_ordinal, F_U_ordinal, F_OA_ordinal⟩ := id H
  refine g_aloadN C (pc' := 1) d2_0 rfl rfl rfl ?_
  refine g_virtualUp C (pc' := 4) (k' := 0) (n' := 0) (argsL := []) (rest := []) (wd hw 15 rfl) (wd hw 16 rfl) (wd hw 17 rfl) (by decide) (wd hw 19 rfl) (wd hw 18 rfl) (wd hw 20 rfl) (wd hw 21 rfl) d2_1 pd_2 rfl rfl rfl (E_UA.ext O.2) (ord_UA l Z a0 hw n0 h O s_PC s_OA s_O s_UA s_U H) (Nat.le_of_ble_eq_true rfl) (Nat.le_of_ble_eq_true rfl) (Nat.le_of_ble_eq_true rfl) (Nat.le_of_ble_eq_true rfl) rfl rfl rfl (fun v17 h16 q18 => ?_)
  obtain ⟨rfl, eh16⟩ := q18
  subst h16
  show G w _ h 0 0 4 #[.val (.ref s_UA), .val (.ref s_PC)] [(.int (1 : Int32))]
  refine g_tsw C (pc' := 54) d2_4 rfl (by decide) rfl (by decide) rfl ?_
  refine g_aloadN C (pc' := 55) d2_54 rfl rfl rfl ?_
  refine g_getS C (pc' := 58) (wd hw 38 rfl) Via.refl d2_55 (S_UA.ext O.2) rfl ?_
  refine g_acmp C (pc' := 61) (same := false) d2_58 rfl rfl rfl (decide_eq_false fun q => (Fld.ne F_PC_ordinal F_UA_ordinal (own_ine (by decide))) (Value.ref.inj q)) (by decide) (by decide) ?_
  refine g_aloadN C (pc' := 62) d2_61 rfl rfl rfl ?_
  refine g_getS C (pc' := 65) (wd hw 37 rfl) Via.refl d2_62 (S_PC.ext O.2) rfl ?_
  refine g_acmp C (pc' := 68) (same := true) d2_65 rfl rfl rfl (decide_eq_true rfl) (by decide) (by decide) ?_
  refine g_iconst C (pc' := 69) (v := (1 : Int32)) d2_68 (by decide) rfl ?_
  refine g_goto C (pc' := 125) d2_69 (by decide) rfl ?_
  exact g_zreturn C d2_125 rfl rfl (Nat.le_of_ble_eq_true rfl) (Nat.le_of_ble_eq_true rfl) (⟨rfl, rfl⟩)
set_option maxRecDepth 65536 in
set_option maxHeartbeats 40000000 in
theorem may_UA_UA (l : Launch) (Z : State) (a0 : Array Value) (hw : ∀ d ∈ tables_1, d.before a0 Z = true) (n0 : Nat) (h : Heap) (O : Old Z n0 h) (s_PC : Addr) (s_OA : Addr) (s_O : Addr) (s_UA : Addr) (s_U : Addr) (H : En Z s_PC s_OA s_O s_UA s_U) : Con l Z (⟨"com/example/honeyguide/honeyguide/NodeKind", "mayBeAssignedTo", "(Lcom/example/honeyguide/honeyguide/NodeKind;)Z"⟩ : MethodName) prog_6_method_4_code 2 (some .boolean) ({ frames := 1, cells := 0, slots := 0, locals := 12 } : Room) #[(.ref s_UA), (.ref s_UA)] h n0 (fun v h' => v = some (.int (1 : Int32)) ∧ h' = h) := by
  refine Con.mk (Ls := #[.val (.ref s_UA), .val (.ref s_UA)]) (plainFor_of_name pn_0) (fun m => by first | (simp [entryFrame, mkF, argsToLocals, Value.category]; done) | rfl) (fun w C => ?_)
  replace C : Cx w l Z "com/example/honeyguide/honeyguide/NodeKind" prog_6_method_4_code 2 (some .boolean) "mayBeAssignedTo" ({ frames := 1, cells := 0, slots := 0, locals := 12 } : Room) n0 := C
  obtain ⟨S_PC, E_PC, S_OA, E_OA, S_O, E_O, S_UA, E_UA, S_U, E_U, F_PC_ordinal, F_O_ordinal, F_UA_ordinal, F_U_ordinal, F_OA_ordinal⟩ := id H
  refine g_aloadN C (pc' := 1) d2_0 rfl rfl rfl ?_
  refine g_virtualUp C (pc' := 4) (k' := 0) (n' := 0) (argsL := []) (rest := []) (wd hw 15 rfl) (wd hw 16 rfl) (wd hw 17 rfl) (by decide) (wd hw 19 rfl) (wd hw 18 rfl) (wd hw 20 rfl) (wd hw 21 rfl) d2_1 pd_2 rfl rfl rfl (E_UA.ext O.2) (ord_UA l Z a0 hw n0 h O s_PC s_OA s_O s_UA s_U H) (Nat.le_of_ble_eq_true rfl) (Nat.le_of_ble_eq_true rfl) (Nat.le_of_ble_eq_true rfl) (Nat.le_of_ble_eq_true rfl) rfl rfl rfl (fun v20 h19 q21 => ?_)
  obtain ⟨rfl, eh19⟩ := q21
  subst h19
  show G w _ h 0 0 4 #[.val (.ref s_UA), .val (.ref s_UA)] [(.int (1 : Int32))]
  refine g_tsw C (pc' := 54) d2_4 rfl (by decide) rfl (by decide) rfl ?_
  refine g_aloadN C (pc' := 55) d2_54 rfl rfl rfl ?_
  refine g_getS C (pc' := 58) (wd hw 38 rfl) Via.refl d2_55 (S_UA.ext O.2) rfl ?_
  refine g_acmp C (pc' := 68) (same := true) d2_58 rfl rfl rfl (decide_eq_true rfl) (by decide) (by decide) ?_
  refine g_iconst C (pc' := 69) (v := (1 : Int32)) d2_68 (by decide) rfl ?_
  refine g_goto C (pc' := 125) d2_69 (by decide) rfl ?_
  exact g_zreturn C d2_125 rfl rfl (Nat.le_of_ble_eq_true rfl) (Nat.le_of_ble_eq_true rfl) (⟨rfl, rfl⟩)
theorem d2_72 : decode prog_6_method_4_code 72 = .ok (.iconst 0, 1) := by decide +kernel
theorem d2_73 : decode prog_6_method_4_code 73 = .ok (.goto 52, 3) := by decide +kernel
set_option maxRecDepth 65536 in
set_option maxHeartbeats 40000000 in
theorem may_UA_U (l : Launch) (Z : State) (a0 : Array Value) (hw : ∀ d ∈ tables_1, d.before a0 Z = true) (n0 : Nat) (h : Heap) (O : Old Z n0 h) (s_PC : Addr) (s_OA : Addr) (s_O : Addr) (s_UA : Addr) (s_U : Addr) (H : En Z s_PC s_OA s_O s_UA s_U) : Con l Z (⟨"com/example/honeyguide/honeyguide/NodeKind", "mayBeAssignedTo", "(Lcom/example/honeyguide/honeyguide/NodeKind;)Z"⟩ : MethodName) prog_6_method_4_code 2 (some .boolean) ({ frames := 1, cells := 0, slots := 0, locals := 12 } : Room) #[(.ref s_UA), (.ref s_U)] h n0 (fun v h' => v = some (.int (0 : Int32)) ∧ h' = h) := by
  refine Con.mk (Ls := #[.val (.ref s_UA), .val (.ref s_U)]) (plainFor_of_name pn_0) (fun m => by first | (simp [entryFrame, mkF, argsToLocals, Value.category]; done) | rfl) (fun w C => ?_)
  replace C : Cx w l Z "com/example/honeyguide/honeyguide/NodeKind" prog_6_method_4_code 2 (some .boolean) "mayBeAssignedTo" ({ frames := 1, cells := 0, slots := 0, locals := 12 } : Room) n0 := C
  obtain ⟨S_PC, E_PC, S_OA, E_OA, S_O, E_O, S_UA, E_UA, S_U, E_U, F_PC_ordinal, F_O_ordinal, F_UA_ordinal, F_U_ordinal, F_OA_ordinal⟩ := id H
  refine g_aloadN C (pc' := 1) d2_0 rfl rfl rfl ?_
  refine g_virtualUp C (pc' := 4) (k' := 0) (n' := 0) (argsL := []) (rest := []) (wd hw 15 rfl) (wd hw 16 rfl) (wd hw 17 rfl) (by decide) (wd hw 19 rfl) (wd hw 18 rfl) (wd hw 20 rfl) (wd hw 21 rfl) d2_1 pd_2 rfl rfl rfl (E_UA.ext O.2) (ord_UA l Z a0 hw n0 h O s_PC s_OA s_O s_UA s_U H) (Nat.le_of_ble_eq_true rfl) (Nat.le_of_ble_eq_true rfl) (Nat.le_of_ble_eq_true rfl) (Nat.le_of_ble_eq_true rfl) rfl rfl rfl (fun v23 h22 q24 => ?_)
  obtain ⟨rfl, eh22⟩ := q24
  subst h22
  show G w _ h 0 0 4 #[.val (.ref s_UA), .val (.ref s_U)] [(.int (1 : Int32))]
  refine g_tsw C (pc' := 54) d2_4 rfl (by decide) rfl (by decide) rfl ?_
  refine g_aloadN C (pc' := 55) d2_54 rfl rfl rfl ?_
  refine g_getS C (pc' := 58) (wd hw 38 rfl) Via.refl d2_55 (S_UA.ext O.2) rfl ?_
  refine g_acmp C (pc' := 61) (same := false) d2_58 rfl rfl rfl (decide_eq_false fun q => (Ne.symm (Fld.ne F_UA_ordinal F_U_ordinal (own_ine (by decide)))) (Value.ref.inj q)) (by decide) (by decide) ?_
  refine g_aloadN C (pc' := 62) d2_61 rfl rfl rfl ?_
  refine g_getS C (pc' := 65) (wd hw 37 rfl) Via.refl d2_62 (S_PC.ext O.2) rfl ?_
  refine g_acmp C (pc' := 72) (same := false) d2_65 rfl rfl rfl (decide_eq_false fun q => (Ne.symm (Fld.ne F_PC_ordinal F_U_ordinal (own_ine (by decide)))) (Value.ref.inj q)) (by decide) (by decide) ?_
  refine g_iconst C (pc' := 73) (v := (0 : Int32)) d2_72 (by decide) rfl ?_
  refine g_goto C (pc' := 125) d2_73 (by decide) rfl ?_
  exact g_zreturn C d2_125 rfl rfl (Nat.le_of_ble_eq_true rfl) (Nat.le_of_ble_eq_true rfl) (⟨rfl, rfl⟩)
set_option maxRecDepth 65536 in
set_option maxHeartbeats 40000000 in
theorem may_UA_OA (l : Launch) (Z : State) (a0 : Array Value) (hw : ∀ d ∈ tables_1, d.before a0 Z = true) (n0 : Nat) (h : Heap) (O : Old Z n0 h) (s_PC : Addr) (s_OA : Addr) (s_O : Addr) (s_UA : Addr) (s_U : Addr) (H : En Z s_PC s_OA s_O s_UA s_U) : Con l Z (⟨"com/example/honeyguide/honeyguide/NodeKind", "mayBeAssignedTo", "(Lcom/example/honeyguide/honeyguide/NodeKind;)Z"⟩ : MethodName) prog_6_method_4_code 2 (some .boolean) ({ frames := 1, cells := 0, slots := 0, locals := 12 } : Room) #[(.ref s_UA), (.ref s_OA)] h n0 (fun v h' => v = some (.int (0 : Int32)) ∧ h' = h) := by
  refine Con.mk (Ls := #[.val (.ref s_UA), .val (.ref s_OA)]) (plainFor_of_name pn_0) (fun m => by first | (simp [entryFrame, mkF, argsToLocals, Value.category]; done) | rfl) (fun w C => ?_)
  replace C : Cx w l Z "com/example/honeyguide/honeyguide/NodeKind" prog_6_method_4_code 2 (some .boolean) "mayBeAssignedTo" ({ frames := 1, cells := 0, slots := 0, locals := 12 } : Room) n0 := C
  obtain ⟨S_PC, E_PC, S_OA, E_OA, S_O, E_O, S_UA, E_UA, S_U, E_U, F_PC_ordinal, F_O_ordinal, F_UA_ordinal, F_U_ordinal, F_OA_ordinal⟩ := id H
  refine g_aloadN C (pc' := 1) d2_0 rfl rfl rfl ?_
  refine g_virtualUp C (pc' := 4) (k' := 0) (n' := 0) (argsL := []) (rest := []) (wd hw 15 rfl) (wd hw 16 rfl) (wd hw 17 rfl) (by decide) (wd hw 19 rfl) (wd hw 18 rfl) (wd hw 20 rfl) (wd hw 21 rfl) d2_1 pd_2 rfl rfl rfl (E_UA.ext O.2) (ord_UA l Z a0 hw n0 h O s_PC s_OA s_O s_UA s_U H) (Nat.le_of_ble_eq_true rfl) (Nat.le_of_ble_eq_true rfl) (Nat.le_of_ble_eq_true rfl) (Nat.le_of_ble_eq_true rfl) rfl rfl rfl (fun v26 h25 q27 => ?_)
  obtain ⟨rfl, eh25⟩ := q27
  subst h25
  show G w _ h 0 0 4 #[.val (.ref s_UA), .val (.ref s_OA)] [(.int (1 : Int32))]
  refine g_tsw C (pc' := 54) d2_4 rfl (by decide) rfl (by decide) rfl ?_
  refine g_aloadN C (pc' := 55) d2_54 rfl rfl rfl ?_
  refine g_getS C (pc' := 58) (wd hw 38 rfl) Via.refl d2_55 (S_UA.ext O.2) rfl ?_
  refine g_acmp C (pc' := 61) (same := false) d2_58 rfl rfl rfl (decide_eq_false fun q => (Ne.symm (Fld.ne F_UA_ordinal F_OA_ordinal (own_ine (by decide)))) (Value.ref.inj q)) (by decide) (by decide) ?_
  refine g_aloadN C (pc' := 62) d2_61 rfl rfl rfl ?_
  refine g_getS C (pc' := 65) (wd hw 37 rfl) Via.refl d2_62 (S_PC.ext O.2) rfl ?_
  refine g_acmp C (pc' := 72) (same := false) d2_65 rfl rfl rfl (decide_eq_false fun q => (Ne.symm (Fld.ne F_PC_ordinal F_OA_ordinal (own_ine (by decide)))) (Value.ref.inj q)) (by decide) (by decide) ?_
  refine g_iconst C (pc' := 73) (v := (0 : Int32)) d2_72 (by decide) rfl ?_
  refine g_goto C (pc' := 125) d2_73 (by decide) rfl ?_
  exact g_zreturn C d2_125 rfl rfl (Nat.le_of_ble_eq_true rfl) (Nat.le_of_ble_eq_true rfl) (⟨rfl, rfl⟩)
set_option maxRecDepth 65536 in
set_option maxHeartbeats 40000000 in
theorem may_UA_O (l : Launch) (Z : State) (a0 : Array Value) (hw : ∀ d ∈ tables_1, d.before a0 Z = true) (n0 : Nat) (h : Heap) (O : Old Z n0 h) (s_PC : Addr) (s_OA : Addr) (s_O : Addr) (s_UA : Addr) (s_U : Addr) (H : En Z s_PC s_OA s_O s_UA s_U) : Con l Z (⟨"com/example/honeyguide/honeyguide/NodeKind", "mayBeAssignedTo", "(Lcom/example/honeyguide/honeyguide/NodeKind;)Z"⟩ : MethodName) prog_6_method_4_code 2 (some .boolean) ({ frames := 1, cells := 0, slots := 0, locals := 12 } : Room) #[(.ref s_UA), (.ref s_O)] h n0 (fun v h' => v = some (.int (0 : Int32)) ∧ h' = h) := by
  refine Con.mk (Ls := #[.val (.ref s_UA), .val (.ref s_O)]) (plainFor_of_name pn_0) (fun m => by first | (simp [entryFrame, mkF, argsToLocals, Value.category]; done) | rfl) (fun w C => ?_)
  replace C : Cx w l Z "com/example/honeyguide/honeyguide/NodeKind" prog_6_method_4_code 2 (some .boolean) "mayBeAssignedTo" ({ frames := 1, cells := 0, slots := 0, locals := 12 } : Room) n0 := C
  obtain ⟨S_PC, E_PC, S_OA, E_OA, S_O, E_O, S_UA, E_UA, S_U, E_U, F_PC_ordinal, F_O_ordinal, F_UA_ordinal, F_U_ordinal, F_OA_ordinal⟩ := id H
  refine g_aloadN C (pc' := 1) d2_0 rfl rfl rfl ?_
  refine g_virtualUp C (pc' := 4) (k' := 0) (n' := 0) (argsL := []) (rest := []) (wd hw 15 rfl) (wd hw 16 rfl) (wd hw 17 rfl) (by decide) (wd hw 19 rfl) (wd hw 18 rfl) (wd hw 20 rfl) (wd hw 21 rfl) d2_1 pd_2 rfl rfl rfl (E_UA.ext O.2) (ord_UA l Z a0 hw n0 h O s_PC s_OA s_O s_UA s_U H) (Nat.le_of_ble_eq_true rfl) (Nat.le_of_ble_eq_true rfl) (Nat.le_of_ble_eq_true rfl) (Nat.le_of_ble_eq_true rfl) rfl rfl rfl (fun v29 h28 q30 => ?_)
  obtain ⟨rfl, eh28⟩ := q30
  subst h28
  show G w _ h 0 0 4 #[.val (.ref s_UA), .val (.ref s_O)] [(.int (1 : Int32))]
  refine g_tsw C (pc' := 54) d2_4 rfl (by decide) rfl (by decide) rfl ?_
  refine g_aloadN C (pc' := 55) d2_54 rfl rfl rfl ?_
  refine g_getS C (pc' := 58) (wd hw 38 rfl) Via.refl d2_55 (S_UA.ext O.2) rfl ?_
  refine g_acmp C (pc' := 61) (same := false) d2_58 rfl rfl rfl (decide_eq_false fun q => (Ne.symm (Fld.ne F_UA_ordinal F_O_ordinal (own_ine (by decide)))) (Value.ref.inj q)) (by decide) (by decide) ?_
  refine g_aloadN C (pc' := 62) d2_61 rfl rfl rfl ?_
  refine g_getS C (pc' := 65) (wd hw 37 rfl) Via.refl d2_62 (S_PC.ext O.2) rfl ?_
  refine g_acmp C (pc' := 72) (same := false) d2_65 rfl rfl rfl (decide_eq_false fun q => (Ne.symm (Fld.ne F_PC_ordinal F_O_ordinal (own_ine (by decide)))) (Value.ref.inj q)) (by decide) (by decide) ?_
  refine g_iconst C (pc' := 73) (v := (0 : Int32)) d2_72 (by decide) rfl ?_
  refine g_goto C (pc' := 125) d2_73 (by decide) rfl ?_
  exact g_zreturn C d2_125 rfl rfl (Nat.le_of_ble_eq_true rfl) (Nat.le_of_ble_eq_true rfl) (⟨rfl, rfl⟩)
theorem d2_76 : decode prog_6_method_4_code 76 = .ok (.aload_n 1, 1) := by decide +kernel
theorem d2_77 : decode prog_6_method_4_code 77 = .ok (.getstatic 7, 3) := by decide +kernel
theorem d2_80 : decode prog_6_method_4_code 80 = .ok (.if_acmp .ne 7, 3) := by decide +kernel
theorem d2_87 : decode prog_6_method_4_code 87 = .ok (.iconst 0, 1) := by decide +kernel
theorem d2_88 : decode prog_6_method_4_code 88 = .ok (.goto 37, 3) := by decide +kernel
set_option maxRecDepth 65536 in
set_option maxHeartbeats 40000000 in
theorem may_U_PC (l : Launch) (Z : State) (a0 : Array Value) (hw : ∀ d ∈ tables_1, d.before a0 Z = true) (n0 : Nat) (h : Heap) (O : Old Z n0 h) (s_PC : Addr) (s_OA : Addr) (s_O : Addr) (s_UA : Addr) (s_U : Addr) (H : En Z s_PC s_OA s_O s_UA s_U) : Con l Z (⟨"com/example/honeyguide/honeyguide/NodeKind", "mayBeAssignedTo", "(Lcom/example/honeyguide/honeyguide/NodeKind;)Z"⟩ : MethodName) prog_6_method_4_code 2 (some .boolean) ({ frames := 1, cells := 0, slots := 0, locals := 12 } : Room) #[(.ref s_U), (.ref s_PC)] h n0 (fun v h' => v = some (.int (0 : Int32)) ∧ h' = h) := by
  refine Con.mk (Ls := #[.val (.ref s_U), .val (.ref s_PC)]) (plainFor_of_name pn_0) (fun m => by first | (simp [entryFrame, mkF, argsToLocals, Value.category]; done) | rfl) (fun w C => ?_)
  replace C : Cx w l Z "com/example/honeyguide/honeyguide/NodeKind" prog_6_method_4_code 2 (some .boolean) "mayBeAssignedTo" ({ frames := 1, cells := 0, slots := 0, locals := 12 } : Room) n0 := C
  obtain ⟨S_PC, E_PC, S_OA, E_OA, S_O, E_O, S_UA, E_UA, S_U, E_U, F_PC_ordinal, F_O_ordinal, F_UA_ordinal, F_U_ordinal, F_OA_ordinal⟩ := id H
  refine g_aloadN C (pc' := 1) d2_0 rfl rfl rfl ?_
  refine g_virtualUp C (pc' := 4) (k' := 0) (n' := 0) (argsL := []) (rest := []) (wd hw 15 rfl) (wd hw 16 rfl) (wd hw 17 rfl) (by decide) (wd hw 19 rfl) (wd hw 18 rfl) (wd hw 20 rfl) (wd hw 21 rfl) d2_1 pd_2 rfl rfl rfl (E_U.ext O.2) (ord_U l Z a0 hw n0 h O s_PC s_OA s_O s_UA s_U H) (Nat.le_of_ble_eq_true rfl) (Nat.le_of_ble_eq_true rfl) (Nat.le_of_ble_eq_true rfl) (Nat.le_of_ble_eq_true rfl) rfl rfl rfl (fun v32 h31 q33 => ?_)
  obtain ⟨rfl, eh31⟩ := q33
  subst h31
  show G w _ h 0 0 4 #[.val (.ref s_U), .val (.ref s_PC)] [(.int (2 : Int32))]
  refine g_tsw C (pc' := 76) d2_4 rfl (by decide) rfl (by decide) rfl ?_
  refine g_aloadN C (pc' := 77) d2_76 rfl rfl rfl ?_
  refine g_getS C (pc' := 80) (wd hw 38 rfl) Via.refl d2_77 (S_UA.ext O.2) rfl ?_
  refine g_acmp C (pc' := 87) (same := false) d2_80 rfl rfl rfl (decide_eq_false fun q => (Fld.ne F_PC_ordinal F_UA_ordinal (own_ine (by decide))) (Value.ref.inj q)) (by decide) (by decide) ?_
  refine g_iconst C (pc' := 88) (v := (0 : Int32)) d2_87 (by decide) rfl ?_
  refine g_goto C (pc' := 125) d2_88 (by decide) rfl ?_
  exact g_zreturn C d2_125 rfl rfl (Nat.le_of_ble_eq_true rfl) (Nat.le_of_ble_eq_true rfl) (⟨rfl, rfl⟩)
theorem d2_83 : decode prog_6_method_4_code 83 = .ok (.iconst 1, 1) := by decide +kernel
theorem d2_84 : decode prog_6_method_4_code 84 = .ok (.goto 41, 3) := by decide +kernel
set_option maxRecDepth 65536 in
set_option maxHeartbeats 40000000 in
theorem may_U_UA (l : Launch) (Z : State) (a0 : Array Value) (hw : ∀ d ∈ tables_1, d.before a0 Z = true) (n0 : Nat) (h : Heap) (O : Old Z n0 h) (s_PC : Addr) (s_OA : Addr) (s_O : Addr) (s_UA : Addr) (s_U : Addr) (H : En Z s_PC s_OA s_O s_UA s_U) : Con l Z (⟨"com/example/honeyguide/honeyguide/NodeKind", "mayBeAssignedTo", "(Lcom/example/honeyguide/honeyguide/NodeKind;)Z"⟩ : MethodName) prog_6_method_4_code 2 (some .boolean) ({ frames := 1, cells := 0, slots := 0, locals := 12 } : Room) #[(.ref s_U), (.ref s_UA)] h n0 (fun v h' => v = some (.int (1 : Int32)) ∧ h' = h) := by
  refine Con.mk (Ls := #[.val (.ref s_U), .val (.ref s_UA)]) (plainFor_of_name pn_0) (fun m => by first | (simp [entryFrame, mkF, argsToLocals, Value.category]; done) | rfl) (fun w C => ?_)
  replace C : Cx w l Z "com/example/honeyguide/honeyguide/NodeKind" prog_6_method_4_code 2 (some .boolean) "mayBeAssignedTo" ({ frames := 1, cells := 0, slots := 0, locals := 12 } : Room) n0 := C
  obtain ⟨S_PC, E_PC, S_OA, E_OA, S_O, E_O, S_UA, E_UA, S_U, E_U, F_PC_ordinal, F_O_ordinal, F_UA_ordinal, F_U_ordinal, F_OA_ordinal⟩ := id H
  refine g_aloadN C (pc' := 1) d2_0 rfl rfl rfl ?_
  refine g_virtualUp C (pc' := 4) (k' := 0) (n' := 0) (argsL := []) (rest := []) (wd hw 15 rfl) (wd hw 16 rfl) (wd hw 17 rfl) (by decide) (wd hw 19 rfl) (wd hw 18 rfl) (wd hw 20 rfl) (wd hw 21 rfl) d2_1 pd_2 rfl rfl rfl (E_U.ext O.2) (ord_U l Z a0 hw n0 h O s_PC s_OA s_O s_UA s_U H) (Nat.le_of_ble_eq_true rfl) (Nat.le_of_ble_eq_true rfl) (Nat.le_of_ble_eq_true rfl) (Nat.le_of_ble_eq_true rfl) rfl rfl rfl (fun v35 h34 q36 => ?_)
  obtain ⟨rfl, eh34⟩ := q36
  subst h34
  show G w _ h 0 0 4 #[.val (.ref s_U), .val (.ref s_UA)] [(.int (2 : Int32))]
  refine g_tsw C (pc' := 76) d2_4 rfl (by decide) rfl (by decide) rfl ?_
  refine g_aloadN C (pc' := 77) d2_76 rfl rfl rfl ?_
  refine g_getS C (pc' := 80) (wd hw 38 rfl) Via.refl d2_77 (S_UA.ext O.2) rfl ?_
  refine g_acmp C (pc' := 83) (same := true) d2_80 rfl rfl rfl (decide_eq_true rfl) (by decide) (by decide) ?_
  refine g_iconst C (pc' := 84) (v := (1 : Int32)) d2_83 (by decide) rfl ?_
  refine g_goto C (pc' := 125) d2_84 (by decide) rfl ?_
  exact g_zreturn C d2_125 rfl rfl (Nat.le_of_ble_eq_true rfl) (Nat.le_of_ble_eq_true rfl) (⟨rfl, rfl⟩)
set_option maxRecDepth 65536 in
set_option maxHeartbeats 40000000 in
theorem may_U_U (l : Launch) (Z : State) (a0 : Array Value) (hw : ∀ d ∈ tables_1, d.before a0 Z = true) (n0 : Nat) (h : Heap) (O : Old Z n0 h) (s_PC : Addr) (s_OA : Addr) (s_O : Addr) (s_UA : Addr) (s_U : Addr) (H : En Z s_PC s_OA s_O s_UA s_U) : Con l Z (⟨"com/example/honeyguide/honeyguide/NodeKind", "mayBeAssignedTo", "(Lcom/example/honeyguide/honeyguide/NodeKind;)Z"⟩ : MethodName) prog_6_method_4_code 2 (some .boolean) ({ frames := 1, cells := 0, slots := 0, locals := 12 } : Room) #[(.ref s_U), (.ref s_U)] h n0 (fun v h' => v = some (.int (0 : Int32)) ∧ h' = h) := by
  refine Con.mk (Ls := #[.val (.ref s_U), .val (.ref s_U)]) (plainFor_of_name pn_0) (fun m => by first | (simp [entryFrame, mkF, argsToLocals, Value.category]; done) | rfl) (fun w C => ?_)
  replace C : Cx w l Z "com/example/honeyguide/honeyguide/NodeKind" prog_6_method_4_code 2 (some .boolean) "mayBeAssignedTo" ({ frames := 1, cells := 0, slots := 0, locals := 12 } : Room) n0 := C
  obtain ⟨S_PC, E_PC, S_OA, E_OA, S_O, E_O, S_UA, E_UA, S_U, E_U, F_PC_ordinal, F_O_ordinal, F_UA_ordinal, F_U_ordinal, F_OA_ordinal⟩ := id H
  refine g_aloadN C (pc' := 1) d2_0 rfl rfl rfl ?_
  refine g_virtualUp C (pc' := 4) (k' := 0) (n' := 0) (argsL := []) (rest := []) (wd hw 15 rfl) (wd hw 16 rfl) (wd hw 17 rfl) (by decide) (wd hw 19 rfl) (wd hw 18 rfl) (wd hw 20 rfl) (wd hw 21 rfl) d2_1 pd_2 rfl rfl rfl (E_U.ext O.2) (ord_U l Z a0 hw n0 h O s_PC s_OA s_O s_UA s_U H) (Nat.le_of_ble_eq_true rfl) (Nat.le_of_ble_eq_true rfl) (Nat.le_of_ble_eq_true rfl) (Nat.le_of_ble_eq_true rfl) rfl rfl rfl (fun v38 h37 q39 => ?_)
  obtain ⟨rfl, eh37⟩ := q39
  subst h37
  show G w _ h 0 0 4 #[.val (.ref s_U), .val (.ref s_U)] [(.int (2 : Int32))]
  refine g_tsw C (pc' := 76) d2_4 rfl (by decide) rfl (by decide) rfl ?_
  refine g_aloadN C (pc' := 77) d2_76 rfl rfl rfl ?_
  refine g_getS C (pc' := 80) (wd hw 38 rfl) Via.refl d2_77 (S_UA.ext O.2) rfl ?_
  refine g_acmp C (pc' := 87) (same := false) d2_80 rfl rfl rfl (decide_eq_false fun q => (Ne.symm (Fld.ne F_UA_ordinal F_U_ordinal (own_ine (by decide)))) (Value.ref.inj q)) (by decide) (by decide) ?_
  refine g_iconst C (pc' := 88) (v := (0 : Int32)) d2_87 (by decide) rfl ?_
  refine g_goto C (pc' := 125) d2_88 (by decide) rfl ?_
  exact g_zreturn C d2_125 rfl rfl (Nat.le_of_ble_eq_true rfl) (Nat.le_of_ble_eq_true rfl) (⟨rfl, rfl⟩)
set_option maxRecDepth 65536 in
set_option maxHeartbeats 40000000 in
theorem may_U_OA (l : Launch) (Z : State) (a0 : Array Value) (hw : ∀ d ∈ tables_1, d.before a0 Z = true) (n0 : Nat) (h : Heap) (O : Old Z n0 h) (s_PC : Addr) (s_OA : Addr) (s_O : Addr) (s_UA : Addr) (s_U : Addr) (H : En Z s_PC s_OA s_O s_UA s_U) : Con l Z (⟨"com/example/honeyguide/honeyguide/NodeKind", "mayBeAssignedTo", "(Lcom/example/honeyguide/honeyguide/NodeKind;)Z"⟩ : MethodName) prog_6_method_4_code 2 (some .boolean) ({ frames := 1, cells := 0, slots := 0, locals := 12 } : Room) #[(.ref s_U), (.ref s_OA)] h n0 (fun v h' => v = some (.int (0 : Int32)) ∧ h' = h) := by
  refine Con.mk (Ls := #[.val (.ref s_U), .val (.ref s_OA)]) (plainFor_of_name pn_0) (fun m => by first | (simp [entryFrame, mkF, argsToLocals, Value.category]; done) | rfl) (fun w C => ?_)
  replace C : Cx w l Z "com/example/honeyguide/honeyguide/NodeKind" prog_6_method_4_code 2 (some .boolean) "mayBeAssignedTo" ({ frames := 1, cells := 0, slots := 0, locals := 12 } : Room) n0 := C
  obtain ⟨S_PC, E_PC, S_OA, E_OA, S_O, E_O, S_UA, E_UA, S_U, E_U, F_PC_ordinal, F_O_ordinal, F_UA_ordinal, F_U_ordinal, F_OA_ordinal⟩ := id H
  refine g_aloadN C (pc' := 1) d2_0 rfl rfl rfl ?_
  refine g_virtualUp C (pc' := 4) (k' := 0) (n' := 0) (argsL := []) (rest := []) (wd hw 15 rfl) (wd hw 16 rfl) (wd hw 17 rfl) (by decide) (wd hw 19 rfl) (wd hw 18 rfl) (wd hw 20 rfl) (wd hw 21 rfl) d2_1 pd_2 rfl rfl rfl (E_U.ext O.2) (ord_U l Z a0 hw n0 h O s_PC s_OA s_O s_UA s_U H) (Nat.le_of_ble_eq_true rfl) (Nat.le_of_ble_eq_true rfl) (Nat.le_of_ble_eq_true rfl) (Nat.le_of_ble_eq_true rfl) rfl rfl rfl (fun v41 h40 q42 => ?_)
  obtain ⟨rfl, eh40⟩ := q42
  subst h40
  show G w _ h 0 0 4 #[.val (.ref s_U), .val (.ref s_OA)] [(.int (2 : Int32))]
  refine g_tsw C (pc' := 76) d2_4 rfl (by decide) rfl (by decide) rfl ?_
  refine g_aloadN C (pc' := 77) d2_76 rfl rfl rfl ?_
  refine g_getS C (pc' := 80) (wd hw 38 rfl) Via.refl d2_77 (S_UA.ext O.2) rfl ?_
  refine g_acmp C (pc' := 87) (same := false) d2_80 rfl rfl rfl (decide_eq_false fun q => (Ne.symm (Fld.ne F_UA_ordinal F_OA_ordinal (own_ine (by decide)))) (Value.ref.inj q)) (by decide) (by decide) ?_
  refine g_iconst C (pc' := 88) (v := (0 : Int32)) d2_87 (by decide) rfl ?_
  refine g_goto C (pc' := 125) d2_88 (by decide) rfl ?_
  exact g_zreturn C d2_125 rfl rfl (Nat.le_of_ble_eq_true rfl) (Nat.le_of_ble_eq_true rfl) (⟨rfl, rfl⟩)
set_option maxRecDepth 65536 in
set_option maxHeartbeats 40000000 in
theorem may_U_O (l : Launch) (Z : State) (a0 : Array Value) (hw : ∀ d ∈ tables_1, d.before a0 Z = true) (n0 : Nat) (h : Heap) (O : Old Z n0 h) (s_PC : Addr) (s_OA : Addr) (s_O : Addr) (s_UA : Addr) (s_U : Addr) (H : En Z s_PC s_OA s_O s_UA s_U) : Con l Z (⟨"com/example/honeyguide/honeyguide/NodeKind", "mayBeAssignedTo", "(Lcom/example/honeyguide/honeyguide/NodeKind;)Z"⟩ : MethodName) prog_6_method_4_code 2 (some .boolean) ({ frames := 1, cells := 0, slots := 0, locals := 12 } : Room) #[(.ref s_U), (.ref s_O)] h n0 (fun v h' => v = some (.int (0 : Int32)) ∧ h' = h) := by
  refine Con.mk (Ls := #[.val (.ref s_U), .val (.ref s_O)]) (plainFor_of_name pn_0) (fun m => by first | (simp [entryFrame, mkF, argsToLocals, Value.category]; done) | rfl) (fun w C => ?_)
  replace C : Cx w l Z "com/example/honeyguide/honeyguide/NodeKind" prog_6_method_4_code 2 (some .boolean) "mayBeAssignedTo" ({ frames := 1, cells := 0, slots := 0, locals := 12 } : Room) n0 := C
  obtain ⟨S_PC, E_PC, S_OA, E_OA, S_O, E_O, S_UA, E_UA, S_U, E_U, F_PC_ordinal, F_O_ordinal, F_UA_ordinal, F_U_ordinal, F_OA_ordinal⟩ := id H
  refine g_aloadN C (pc' := 1) d2_0 rfl rfl rfl ?_
  refine g_virtualUp C (pc' := 4) (k' := 0) (n' := 0) (argsL := []) (rest := []) (wd hw 15 rfl) (wd hw 16 rfl) (wd hw 17 rfl) (by decide) (wd hw 19 rfl) (wd hw 18 rfl) (wd hw 20 rfl) (wd hw 21 rfl) d2_1 pd_2 rfl rfl rfl (E_U.ext O.2) (ord_U l Z a0 hw n0 h O s_PC s_OA s_O s_UA s_U H) (Nat.le_of_ble_eq_true rfl) (Nat.le_of_ble_eq_true rfl) (Nat.le_of_ble_eq_true rfl) (Nat.le_of_ble_eq_true rfl) rfl rfl rfl (fun v44 h43 q45 => ?_)
  obtain ⟨rfl, eh43⟩ := q45
  subst h43
  show G w _ h 0 0 4 #[.val (.ref s_U), .val (.ref s_O)] [(.int (2 : Int32))]
  refine g_tsw C (pc' := 76) d2_4 rfl (by decide) rfl (by decide) rfl ?_
  refine g_aloadN C (pc' := 77) d2_76 rfl rfl rfl ?_
  refine g_getS C (pc' := 80) (wd hw 38 rfl) Via.refl d2_77 (S_UA.ext O.2) rfl ?_
  refine g_acmp C (pc' := 87) (same := false) d2_80 rfl rfl rfl (decide_eq_false fun q => (Ne.symm (Fld.ne F_UA_ordinal F_O_ordinal (own_ine (by decide)))) (Value.ref.inj q)) (by decide) (by decide) ?_
  refine g_iconst C (pc' := 88) (v := (0 : Int32)) d2_87 (by decide) rfl ?_
  refine g_goto C (pc' := 125) d2_88 (by decide) rfl ?_
  exact g_zreturn C d2_125 rfl rfl (Nat.le_of_ble_eq_true rfl) (Nat.le_of_ble_eq_true rfl) (⟨rfl, rfl⟩)
theorem d2_91 : decode prog_6_method_4_code 91 = .ok (.aload_n 1, 1) := by decide +kernel
theorem d2_92 : decode prog_6_method_4_code 92 = .ok (.getstatic 13, 3) := by decide +kernel
theorem d2_95 : decode prog_6_method_4_code 95 = .ok (.if_acmp .eq 10, 3) := by decide +kernel
theorem d2_98 : decode prog_6_method_4_code 98 = .ok (.aload_n 1, 1) := by decide +kernel
theorem d2_99 : decode prog_6_method_4_code 99 = .ok (.getstatic 3, 3) := by decide +kernel
theorem d2_102 : decode prog_6_method_4_code 102 = .ok (.if_acmp .ne 7, 3) := by decide +kernel
theorem d2_105 : decode prog_6_method_4_code 105 = .ok (.iconst 1, 1) := by decide +kernel
theorem d2_106 : decode prog_6_method_4_code 106 = .ok (.goto 19, 3) := by decide +kernel
set_option maxRecDepth 65536 in
set_option maxHeartbeats 40000000 in
theorem may_OA_PC (l : Launch) (Z : State) (a0 : Array Value) (hw : ∀ d ∈ tables_1, d.before a0 Z = true) (n0 : Nat) (h : Heap) (O : Old Z n0 h) (s_PC : Addr) (s_OA : Addr) (s_O : Addr) (s_UA : Addr) (s_U : Addr) (H : En Z s_PC s_OA s_O s_UA s_U) : Con l Z (⟨"com/example/honeyguide/honeyguide/NodeKind", "mayBeAssignedTo", "(Lcom/example/honeyguide/honeyguide/NodeKind;)Z"⟩ : MethodName) prog_6_method_4_code 2 (some .boolean) ({ frames := 1, cells := 0, slots := 0, locals := 12 } : Room) #[(.ref s_OA), (.ref s_PC)] h n0 (fun v h' => v = some (.int (1 : Int32)) ∧ h' = h) := by
  refine Con.mk (Ls := #[.val (.ref s_OA), .val (.ref s_PC)]) (plainFor_of_name pn_0) (fun m => by first | (simp [entryFrame, mkF, argsToLocals, Value.category]; done) | rfl) (fun w C => ?_)
  replace C : Cx w l Z "com/example/honeyguide/honeyguide/NodeKind" prog_6_method_4_code 2 (some .boolean) "mayBeAssignedTo" ({ frames := 1, cells := 0, slots := 0, locals := 12 } : Room) n0 := C
  obtain ⟨S_PC, E_PC, S_OA, E_OA, S_O, E_O, S_UA, E_UA, S_U, E_U, F_PC_ordinal, F_O_ordinal, F_UA_ordinal, F_U_ordinal, F_OA_ordinal⟩ := id H
  refine g_aloadN C (pc' := 1) d2_0 rfl rfl rfl ?_
  refine g_virtualUp C (pc' := 4) (k' := 0) (n' := 0) (argsL := []) (rest := []) (wd hw 15 rfl) (wd hw 16 rfl) (wd hw 17 rfl) (by decide) (wd hw 19 rfl) (wd hw 18 rfl) (wd hw 20 rfl) (wd hw 21 rfl) d2_1 pd_2 rfl rfl rfl (E_OA.ext O.2) (ord_OA l Z a0 hw n0 h O s_PC s_OA s_O s_UA s_U H) (Nat.le_of_ble_eq_true rfl) (Nat.le_of_ble_eq_true rfl) (Nat.le_of_ble_eq_true rfl) (Nat.le_of_ble_eq_true rfl) rfl rfl rfl (fun v47 h46 q48 => ?_)
  obtain ⟨rfl, eh46⟩ := q48
  subst h46
  show G w _ h 0 0 4 #[.val (.ref s_OA), .val (.ref s_PC)] [(.int (3 : Int32))]
  refine g_tsw C (pc' := 91) d2_4 rfl (by decide) rfl (by decide) rfl ?_
  refine g_aloadN C (pc' := 92) d2_91 rfl rfl rfl ?_
  refine g_getS C (pc' := 95) (wd hw 36 rfl) Via.refl d2_92 (S_OA.ext O.2) rfl ?_
  refine g_acmp C (pc' := 98) (same := false) d2_95 rfl rfl rfl (decide_eq_false fun q => (Fld.ne F_PC_ordinal F_OA_ordinal (own_ine (by decide))) (Value.ref.inj q)) (by decide) (by decide) ?_
  refine g_aloadN C (pc' := 99) d2_98 rfl rfl rfl ?_
  refine g_getS C (pc' := 102) (wd hw 37 rfl) Via.refl d2_99 (S_PC.ext O.2) rfl ?_
  refine g_acmp C (pc' := 105) (same := true) d2_102 rfl rfl rfl (decide_eq_true rfl) (by decide) (by decide) ?_
  refine g_iconst C (pc' := 106) (v := (1 : Int32)) d2_105 (by decide) rfl ?_
  refine g_goto C (pc' := 125) d2_106 (by decide) rfl ?_
  exact g_zreturn C d2_125 rfl rfl (Nat.le_of_ble_eq_true rfl) (Nat.le_of_ble_eq_true rfl) (⟨rfl, rfl⟩)
theorem d2_109 : decode prog_6_method_4_code 109 = .ok (.iconst 0, 1) := by decide +kernel
theorem d2_110 : decode prog_6_method_4_code 110 = .ok (.goto 15, 3) := by decide +kernel
set_option maxRecDepth 65536 in
set_option maxHeartbeats 40000000 in
theorem may_OA_UA (l : Launch) (Z : State) (a0 : Array Value) (hw : ∀ d ∈ tables_1, d.before a0 Z = true) (n0 : Nat) (h : Heap) (O : Old Z n0 h) (s_PC : Addr) (s_OA : Addr) (s_O : Addr) (s_UA : Addr) (s_U : Addr) (H : En Z s_PC s_OA s_O s_UA s_U) : Con l Z (⟨"com/example/honeyguide/honeyguide/NodeKind", "mayBeAssignedTo", "(Lcom/example/honeyguide/honeyguide/NodeKind;)Z"⟩ : MethodName) prog_6_method_4_code 2 (some .boolean) ({ frames := 1, cells := 0, slots := 0, locals := 12 } : Room) #[(.ref s_OA), (.ref s_UA)] h n0 (fun v h' => v = some (.int (0 : Int32)) ∧ h' = h) := by
  refine Con.mk (Ls := #[.val (.ref s_OA), .val (.ref s_UA)]) (plainFor_of_name pn_0) (fun m => by first | (simp [entryFrame, mkF, argsToLocals, Value.category]; done) | rfl) (fun w C => ?_)
  replace C : Cx w l Z "com/example/honeyguide/honeyguide/NodeKind" prog_6_method_4_code 2 (some .boolean) "mayBeAssignedTo" ({ frames := 1, cells := 0, slots := 0, locals := 12 } : Room) n0 := C
  obtain ⟨S_PC, E_PC, S_OA, E_OA, S_O, E_O, S_UA, E_UA, S_U, E_U, F_PC_ordinal, F_O_ordinal, F_UA_ordinal, F_U_ordinal, F_OA_ordinal⟩ := id H
  refine g_aloadN C (pc' := 1) d2_0 rfl rfl rfl ?_
  refine g_virtualUp C (pc' := 4) (k' := 0) (n' := 0) (argsL := []) (rest := []) (wd hw 15 rfl) (wd hw 16 rfl) (wd hw 17 rfl) (by decide) (wd hw 19 rfl) (wd hw 18 rfl) (wd hw 20 rfl) (wd hw 21 rfl) d2_1 pd_2 rfl rfl rfl (E_OA.ext O.2) (ord_OA l Z a0 hw n0 h O s_PC s_OA s_O s_UA s_U H) (Nat.le_of_ble_eq_true rfl) (Nat.le_of_ble_eq_true rfl) (Nat.le_of_ble_eq_true rfl) (Nat.le_of_ble_eq_true rfl) rfl rfl rfl (fun v50 h49 q51 => ?_)
  obtain ⟨rfl, eh49⟩ := q51
  subst h49
  show G w _ h 0 0 4 #[.val (.ref s_OA), .val (.ref s_UA)] [(.int (3 : Int32))]
  refine g_tsw C (pc' := 91) d2_4 rfl (by decide) rfl (by decide) rfl ?_
  refine g_aloadN C (pc' := 92) d2_91 rfl rfl rfl ?_
  refine g_getS C (pc' := 95) (wd hw 36 rfl) Via.refl d2_92 (S_OA.ext O.2) rfl ?_
  refine g_acmp C (pc' := 98) (same := false) d2_95 rfl rfl rfl (decide_eq_false fun q => (Fld.ne F_UA_ordinal F_OA_ordinal (own_ine (by decide))) (Value.ref.inj q)) (by decide) (by decide) ?_
  refine g_aloadN C (pc' := 99) d2_98 rfl rfl rfl ?_
  refine g_getS C (pc' := 102) (wd hw 37 rfl) Via.refl d2_99 (S_PC.ext O.2) rfl ?_
  refine g_acmp C (pc' := 109) (same := false) d2_102 rfl rfl rfl (decide_eq_false fun q => (Ne.symm (Fld.ne F_PC_ordinal F_UA_ordinal (own_ine (by decide)))) (Value.ref.inj q)) (by decide) (by decide) ?_
  refine g_iconst C (pc' := 110) (v := (0 : Int32)) d2_109 (by decide) rfl ?_
  refine g_goto C (pc' := 125) d2_110 (by decide) rfl ?_
  exact g_zreturn C d2_125 rfl rfl (Nat.le_of_ble_eq_true rfl) (Nat.le_of_ble_eq_true rfl) (⟨rfl, rfl⟩)
set_option maxRecDepth 65536 in
set_option maxHeartbeats 40000000 in
theorem may_OA_U (l : Launch) (Z : State) (a0 : Array Value) (hw : ∀ d ∈ tables_1, d.before a0 Z = true) (n0 : Nat) (h : Heap) (O : Old Z n0 h) (s_PC : Addr) (s_OA : Addr) (s_O : Addr) (s_UA : Addr) (s_U : Addr) (H : En Z s_PC s_OA s_O s_UA s_U) : Con l Z (⟨"com/example/honeyguide/honeyguide/NodeKind", "mayBeAssignedTo", "(Lcom/example/honeyguide/honeyguide/NodeKind;)Z"⟩ : MethodName) prog_6_method_4_code 2 (some .boolean) ({ frames := 1, cells := 0, slots := 0, locals := 12 } : Room) #[(.ref s_OA), (.ref s_U)] h n0 (fun v h' => v = some (.int (0 : Int32)) ∧ h' = h) := by
  refine Con.mk (Ls := #[.val (.ref s_OA), .val (.ref s_U)]) (plainFor_of_name pn_0) (fun m => by first | (simp [entryFrame, mkF, argsToLocals, Value.category]; done) | rfl) (fun w C => ?_)
  replace C : Cx w l Z "com/example/honeyguide/honeyguide/NodeKind" prog_6_method_4_code 2 (some .boolean) "mayBeAssignedTo" ({ frames := 1, cells := 0, slots := 0, locals := 12 } : Room) n0 := C
  obtain ⟨S_PC, E_PC, S_OA, E_OA, S_O, E_O, S_UA, E_UA, S_U, E_U, F_PC_ordinal, F_O_ordinal, F_UA_ordinal, F_U_ordinal, F_OA_ordinal⟩ := id H
  refine g_aloadN C (pc' := 1) d2_0 rfl rfl rfl ?_
  refine g_virtualUp C (pc' := 4) (k' := 0) (n' := 0) (argsL := []) (rest := []) (wd hw 15 rfl) (wd hw 16 rfl) (wd hw 17 rfl) (by decide) (wd hw 19 rfl) (wd hw 18 rfl) (wd hw 20 rfl) (wd hw 21 rfl) d2_1 pd_2 rfl rfl rfl (E_OA.ext O.2) (ord_OA l Z a0 hw n0 h O s_PC s_OA s_O s_UA s_U H) (Nat.le_of_ble_eq_true rfl) (Nat.le_of_ble_eq_true rfl) (Nat.le_of_ble_eq_true rfl) (Nat.le_of_ble_eq_true rfl) rfl rfl rfl (fun v53 h52 q54 => ?_)
  obtain ⟨rfl, eh52⟩ := q54
  subst h52
  show G w _ h 0 0 4 #[.val (.ref s_OA), .val (.ref s_U)] [(.int (3 : Int32))]
  refine g_tsw C (pc' := 91) d2_4 rfl (by decide) rfl (by decide) rfl ?_
  refine g_aloadN C (pc' := 92) d2_91 rfl rfl rfl ?_
  refine g_getS C (pc' := 95) (wd hw 36 rfl) Via.refl d2_92 (S_OA.ext O.2) rfl ?_
  refine g_acmp C (pc' := 98) (same := false) d2_95 rfl rfl rfl (decide_eq_false fun q => (Fld.ne F_U_ordinal F_OA_ordinal (own_ine (by decide))) (Value.ref.inj q)) (by decide) (by decide) ?_
  refine g_aloadN C (pc' := 99) d2_98 rfl rfl rfl ?_
  refine g_getS C (pc' := 102) (wd hw 37 rfl) Via.refl d2_99 (S_PC.ext O.2) rfl ?_
  refine g_acmp C (pc' := 109) (same := false) d2_102 rfl rfl rfl (decide_eq_false fun q => (Ne.symm (Fld.ne F_PC_ordinal F_U_ordinal (own_ine (by decide)))) (Value.ref.inj q)) (by decide) (by decide) ?_
  refine g_iconst C (pc' := 110) (v := (0 : Int32)) d2_109 (by decide) rfl ?_
  refine g_goto C (pc' := 125) d2_110 (by decide) rfl ?_
  exact g_zreturn C d2_125 rfl rfl (Nat.le_of_ble_eq_true rfl) (Nat.le_of_ble_eq_true rfl) (⟨rfl, rfl⟩)
set_option maxRecDepth 65536 in
set_option maxHeartbeats 40000000 in
theorem may_OA_OA (l : Launch) (Z : State) (a0 : Array Value) (hw : ∀ d ∈ tables_1, d.before a0 Z = true) (n0 : Nat) (h : Heap) (O : Old Z n0 h) (s_PC : Addr) (s_OA : Addr) (s_O : Addr) (s_UA : Addr) (s_U : Addr) (H : En Z s_PC s_OA s_O s_UA s_U) : Con l Z (⟨"com/example/honeyguide/honeyguide/NodeKind", "mayBeAssignedTo", "(Lcom/example/honeyguide/honeyguide/NodeKind;)Z"⟩ : MethodName) prog_6_method_4_code 2 (some .boolean) ({ frames := 1, cells := 0, slots := 0, locals := 12 } : Room) #[(.ref s_OA), (.ref s_OA)] h n0 (fun v h' => v = some (.int (1 : Int32)) ∧ h' = h) := by
  refine Con.mk (Ls := #[.val (.ref s_OA), .val (.ref s_OA)]) (plainFor_of_name pn_0) (fun m => by first | (simp [entryFrame, mkF, argsToLocals, Value.category]; done) | rfl) (fun w C => ?_)
  replace C : Cx w l Z "com/example/honeyguide/honeyguide/NodeKind" prog_6_method_4_code 2 (some .boolean) "mayBeAssignedTo" ({ frames := 1, cells := 0, slots := 0, locals := 12 } : Room) n0 := C
  obtain ⟨S_PC, E_PC, S_OA, E_OA, S_O, E_O, S_UA, E_UA, S_U, E_U, F_PC_ordinal, F_O_ordinal, F_UA_ordinal, F_U_ordinal, F_OA_ordinal⟩ := id H
  refine g_aloadN C (pc' := 1) d2_0 rfl rfl rfl ?_
  refine g_virtualUp C (pc' := 4) (k' := 0) (n' := 0) (argsL := []) (rest := []) (wd hw 15 rfl) (wd hw 16 rfl) (wd hw 17 rfl) (by decide) (wd hw 19 rfl) (wd hw 18 rfl) (wd hw 20 rfl) (wd hw 21 rfl) d2_1 pd_2 rfl rfl rfl (E_OA.ext O.2) (ord_OA l Z a0 hw n0 h O s_PC s_OA s_O s_UA s_U H) (Nat.le_of_ble_eq_true rfl) (Nat.le_of_ble_eq_true rfl) (Nat.le_of_ble_eq_true rfl) (Nat.le_of_ble_eq_true rfl) rfl rfl rfl (fun v56 h55 q57 => ?_)
  obtain ⟨rfl, eh55⟩ := q57
  subst h55
  show G w _ h 0 0 4 #[.val (.ref s_OA), .val (.ref s_OA)] [(.int (3 : Int32))]
  refine g_tsw C (pc' := 91) d2_4 rfl (by decide) rfl (by decide) rfl ?_
  refine g_aloadN C (pc' := 92) d2_91 rfl rfl rfl ?_
  refine g_getS C (pc' := 95) (wd hw 36 rfl) Via.refl d2_92 (S_OA.ext O.2) rfl ?_
  refine g_acmp C (pc' := 105) (same := true) d2_95 rfl rfl rfl (decide_eq_true rfl) (by decide) (by decide) ?_
  refine g_iconst C (pc' := 106) (v := (1 : Int32)) d2_105 (by decide) rfl ?_
  refine g_goto C (pc' := 125) d2_106 (by decide) rfl ?_
  exact g_zreturn C d2_125 rfl rfl (Nat.le_of_ble_eq_true rfl) (Nat.le_of_ble_eq_true rfl) (⟨rfl, rfl⟩)
set_option maxRecDepth 65536 in
set_option maxHeartbeats 40000000 in
theorem may_OA_O (l : Launch) (Z : State) (a0 : Array Value) (hw : ∀ d ∈ tables_1, d.before a0 Z = true) (n0 : Nat) (h : Heap) (O : Old Z n0 h) (s_PC : Addr) (s_OA : Addr) (s_O : Addr) (s_UA : Addr) (s_U : Addr) (H : En Z s_PC s_OA s_O s_UA s_U) : Con l Z (⟨"com/example/honeyguide/honeyguide/NodeKind", "mayBeAssignedTo", "(Lcom/example/honeyguide/honeyguide/NodeKind;)Z"⟩ : MethodName) prog_6_method_4_code 2 (some .boolean) ({ frames := 1, cells := 0, slots := 0, locals := 12 } : Room) #[(.ref s_OA), (.ref s_O)] h n0 (fun v h' => v = some (.int (0 : Int32)) ∧ h' = h) := by
  refine Con.mk (Ls := #[.val (.ref s_OA), .val (.ref s_O)]) (plainFor_of_name pn_0) (fun m => by first | (simp [entryFrame, mkF, argsToLocals, Value.category]; done) | rfl) (fun w C => ?_)
  replace C : Cx w l Z "com/example/honeyguide/honeyguide/NodeKind" prog_6_method_4_code 2 (some .boolean) "mayBeAssignedTo" ({ frames := 1, cells := 0, slots := 0, locals := 12 } : Room) n0 := C
  obtain ⟨S_PC, E_PC, S_OA, E_OA, S_O, E_O, S_UA, E_UA, S_U, E_U, F_PC_ordinal, F_O_ordinal, F_UA_ordinal, F_U_ordinal, F_OA_ordinal⟩ := id H
  refine g_aloadN C (pc' := 1) d2_0 rfl rfl rfl ?_
  refine g_virtualUp C (pc' := 4) (k' := 0) (n' := 0) (argsL := []) (rest := []) (wd hw 15 rfl) (wd hw 16 rfl) (wd hw 17 rfl) (by decide) (wd hw 19 rfl) (wd hw 18 rfl) (wd hw 20 rfl) (wd hw 21 rfl) d2_1 pd_2 rfl rfl rfl (E_OA.ext O.2) (ord_OA l Z a0 hw n0 h O s_PC s_OA s_O s_UA s_U H) (Nat.le_of_ble_eq_true rfl) (Nat.le_of_ble_eq_true rfl) (Nat.le_of_ble_eq_true rfl) (Nat.le_of_ble_eq_true rfl) rfl rfl rfl (fun v59 h58 q60 => ?_)
  obtain ⟨rfl, eh58⟩ := q60
  subst h58
  show G w _ h 0 0 4 #[.val (.ref s_OA), .val (.ref s_O)] [(.int (3 : Int32))]
  refine g_tsw C (pc' := 91) d2_4 rfl (by decide) rfl (by decide) rfl ?_
  refine g_aloadN C (pc' := 92) d2_91 rfl rfl rfl ?_
  refine g_getS C (pc' := 95) (wd hw 36 rfl) Via.refl d2_92 (S_OA.ext O.2) rfl ?_
  refine g_acmp C (pc' := 98) (same := false) d2_95 rfl rfl rfl (decide_eq_false fun q => (Ne.symm (Fld.ne F_OA_ordinal F_O_ordinal (own_ine (by decide)))) (Value.ref.inj q)) (by decide) (by decide) ?_
  refine g_aloadN C (pc' := 99) d2_98 rfl rfl rfl ?_
  refine g_getS C (pc' := 102) (wd hw 37 rfl) Via.refl d2_99 (S_PC.ext O.2) rfl ?_
  refine g_acmp C (pc' := 109) (same := false) d2_102 rfl rfl rfl (decide_eq_false fun q => (Ne.symm (Fld.ne F_PC_ordinal F_O_ordinal (own_ine (by decide)))) (Value.ref.inj q)) (by decide) (by decide) ?_
  refine g_iconst C (pc' := 110) (v := (0 : Int32)) d2_109 (by decide) rfl ?_
  refine g_goto C (pc' := 125) d2_110 (by decide) rfl ?_
  exact g_zreturn C d2_125 rfl rfl (Nat.le_of_ble_eq_true rfl) (Nat.le_of_ble_eq_true rfl) (⟨rfl, rfl⟩)
theorem d2_113 : decode prog_6_method_4_code 113 = .ok (.aload_n 1, 1) := by decide +kernel
theorem d2_114 : decode prog_6_method_4_code 114 = .ok (.getstatic 13, 3) := by decide +kernel
theorem d2_117 : decode prog_6_method_4_code 117 = .ok (.if_acmp .ne 7, 3) := by decide +kernel
theorem d2_124 : decode prog_6_method_4_code 124 = .ok (.iconst 0, 1) := by decide +kernel
set_option maxRecDepth 65536 in
set_option maxHeartbeats 40000000 in
theorem may_O_PC (l : Launch) (Z : State) (a0 : Array Value) (hw : ∀ d ∈ tables_1, d.before a0 Z = true) (n0 : Nat) (h : Heap) (O : Old Z n0 h) (s_PC : Addr) (s_OA : Addr) (s_O : Addr) (s_UA : Addr) (s_U : Addr) (H : En Z s_PC s_OA s_O s_UA s_U) : Con l Z (⟨"com/example/honeyguide/honeyguide/NodeKind", "mayBeAssignedTo", "(Lcom/example/honeyguide/honeyguide/NodeKind;)Z"⟩ : MethodName) prog_6_method_4_code 2 (some .boolean) ({ frames := 1, cells := 0, slots := 0, locals := 12 } : Room) #[(.ref s_O), (.ref s_PC)] h n0 (fun v h' => v = some (.int (0 : Int32)) ∧ h' = h) := by
  refine Con.mk (Ls := #[.val (.ref s_O), .val (.ref s_PC)]) (plainFor_of_name pn_0) (fun m => by first | (simp [entryFrame, mkF, argsToLocals, Value.category]; done) | rfl) (fun w C => ?_)
  replace C : Cx w l Z "com/example/honeyguide/honeyguide/NodeKind" prog_6_method_4_code 2 (some .boolean) "mayBeAssignedTo" ({ frames := 1, cells := 0, slots := 0, locals := 12 } : Room) n0 := C
  obtain ⟨S_PC, E_PC, S_OA, E_OA, S_O, E_O, S_UA, E_UA, S_U, E_U, F_PC_ordinal, F_O_ordinal, F_UA_ordinal, F_U_ordinal, F_OA_ordinal⟩ := id H
  refine g_aloadN C (pc' := 1) d2_0 rfl rfl rfl ?_
  refine g_virtualUp C (pc' := 4) (k' := 0) (n' := 0) (argsL := []) (rest := []) (wd hw 15 rfl) (wd hw 16 rfl) (wd hw 17 rfl) (by decide) (wd hw 19 rfl) (wd hw 18 rfl) (wd hw 20 rfl) (wd hw 21 rfl) d2_1 pd_2 rfl rfl rfl (E_O.ext O.2) (ord_O l Z a0 hw n0 h O s_PC s_OA s_O s_UA s_U H) (Nat.le_of_ble_eq_true rfl) (Nat.le_of_ble_eq_true rfl) (Nat.le_of_ble_eq_true rfl) (Nat.le_of_ble_eq_true rfl) rfl rfl rfl (fun v62 h61 q63 => ?_)
  obtain ⟨rfl, eh61⟩ := q63
  subst h61
  show G w _ h 0 0 4 #[.val (.ref s_O), .val (.ref s_PC)] [(.int (4 : Int32))]
  refine g_tsw C (pc' := 113) d2_4 rfl (by decide) rfl (by decide) rfl ?_
  refine g_aloadN C (pc' := 114) d2_113 rfl rfl rfl ?_
  refine g_getS C (pc' := 117) (wd hw 36 rfl) Via.refl d2_114 (S_OA.ext O.2) rfl ?_
  refine g_acmp C (pc' := 124) (same := false) d2_117 rfl rfl rfl (decide_eq_false fun q => (Fld.ne F_PC_ordinal F_OA_ordinal (own_ine (by decide))) (Value.ref.inj q)) (by decide) (by decide) ?_
  refine g_iconst C (pc' := 125) (v := (0 : Int32)) d2_124 (by decide) rfl ?_
  exact g_zreturn C d2_125 rfl rfl (Nat.le_of_ble_eq_true rfl) (Nat.le_of_ble_eq_true rfl) (⟨rfl, rfl⟩)
set_option maxRecDepth 65536 in
set_option maxHeartbeats 40000000 in
theorem may_O_UA (l : Launch) (Z : State) (a0 : Array Value) (hw : ∀ d ∈ tables_1, d.before a0 Z = true) (n0 : Nat) (h : Heap) (O : Old Z n0 h) (s_PC : Addr) (s_OA : Addr) (s_O : Addr) (s_UA : Addr) (s_U : Addr) (H : En Z s_PC s_OA s_O s_UA s_U) : Con l Z (⟨"com/example/honeyguide/honeyguide/NodeKind", "mayBeAssignedTo", "(Lcom/example/honeyguide/honeyguide/NodeKind;)Z"⟩ : MethodName) prog_6_method_4_code 2 (some .boolean) ({ frames := 1, cells := 0, slots := 0, locals := 12 } : Room) #[(.ref s_O), (.ref s_UA)] h n0 (fun v h' => v = some (.int (0 : Int32)) ∧ h' = h) := by
  refine Con.mk (Ls := #[.val (.ref s_O), .val (.ref s_UA)]) (plainFor_of_name pn_0) (fun m => by first | (simp [entryFrame, mkF, argsToLocals, Value.category]; done) | rfl) (fun w C => ?_)
  replace C : Cx w l Z "com/example/honeyguide/honeyguide/NodeKind" prog_6_method_4_code 2 (some .boolean) "mayBeAssignedTo" ({ frames := 1, cells := 0, slots := 0, locals := 12 } : Room) n0 := C
  obtain ⟨S_PC, E_PC, S_OA, E_OA, S_O, E_O, S_UA, E_UA, S_U, E_U, F_PC_ordinal, F_O_ordinal, F_UA_ordinal, F_U_ordinal, F_OA_ordinal⟩ := id H
  refine g_aloadN C (pc' := 1) d2_0 rfl rfl rfl ?_
  refine g_virtualUp C (pc' := 4) (k' := 0) (n' := 0) (argsL := []) (rest := []) (wd hw 15 rfl) (wd hw 16 rfl) (wd hw 17 rfl) (by decide) (wd hw 19 rfl) (wd hw 18 rfl) (wd hw 20 rfl) (wd hw 21 rfl) d2_1 pd_2 rfl rfl rfl (E_O.ext O.2) (ord_O l Z a0 hw n0 h O s_PC s_OA s_O s_UA s_U H) (Nat.le_of_ble_eq_true rfl) (Nat.le_of_ble_eq_true rfl) (Nat.le_of_ble_eq_true rfl) (Nat.le_of_ble_eq_true rfl) rfl rfl rfl (fun v65 h64 q66 => ?_)
  obtain ⟨rfl, eh64⟩ := q66
  subst h64
  show G w _ h 0 0 4 #[.val (.ref s_O), .val (.ref s_UA)] [(.int (4 : Int32))]
  refine g_tsw C (pc' := 113) d2_4 rfl (by decide) rfl (by decide) rfl ?_
  refine g_aloadN C (pc' := 114) d2_113 rfl rfl rfl ?_
  refine g_getS C (pc' := 117) (wd hw 36 rfl) Via.refl d2_114 (S_OA.ext O.2) rfl ?_
  refine g_acmp C (pc' := 124) (same := false) d2_117 rfl rfl rfl (decide_eq_false fun q => (Fld.ne F_UA_ordinal F_OA_ordinal (own_ine (by decide))) (Value.ref.inj q)) (by decide) (by decide) ?_
  refine g_iconst C (pc' := 125) (v := (0 : Int32)) d2_124 (by decide) rfl ?_
  exact g_zreturn C d2_125 rfl rfl (Nat.le_of_ble_eq_true rfl) (Nat.le_of_ble_eq_true rfl) (⟨rfl, rfl⟩)
set_option maxRecDepth 65536 in
set_option maxHeartbeats 40000000 in
theorem may_O_U (l : Launch) (Z : State) (a0 : Array Value) (hw : ∀ d ∈ tables_1, d.before a0 Z = true) (n0 : Nat) (h : Heap) (O : Old Z n0 h) (s_PC : Addr) (s_OA : Addr) (s_O : Addr) (s_UA : Addr) (s_U : Addr) (H : En Z s_PC s_OA s_O s_UA s_U) : Con l Z (⟨"com/example/honeyguide/honeyguide/NodeKind", "mayBeAssignedTo", "(Lcom/example/honeyguide/honeyguide/NodeKind;)Z"⟩ : MethodName) prog_6_method_4_code 2 (some .boolean) ({ frames := 1, cells := 0, slots := 0, locals := 12 } : Room) #[(.ref s_O), (.ref s_U)] h n0 (fun v h' => v = some (.int (0 : Int32)) ∧ h' = h) := by
  refine Con.mk (Ls := #[.val (.ref s_O), .val (.ref s_U)]) (plainFor_of_name pn_0) (fun m => by first | (simp [entryFrame, mkF, argsToLocals, Value.category]; done) | rfl) (fun w C => ?_)
  replace C : Cx w l Z "com/example/honeyguide/honeyguide/NodeKind" prog_6_method_4_code 2 (some .boolean) "mayBeAssignedTo" ({ frames := 1, cells := 0, slots := 0, locals := 12 } : Room) n0 := C
  obtain ⟨S_PC, E_PC, S_OA, E_OA, S_O, E_O, S_UA, E_UA, S_U, E_U, F_PC_ordinal, F_O_ordinal, F_UA_ordinal, F_U_ordinal, F_OA_ordinal⟩ := id H
  refine g_aloadN C (pc' := 1) d2_0 rfl rfl rfl ?_
  refine g_virtualUp C (pc' := 4) (k' := 0) (n' := 0) (argsL := []) (rest := []) (wd hw 15 rfl) (wd hw 16 rfl) (wd hw 17 rfl) (by decide) (wd hw 19 rfl) (wd hw 18 rfl) (wd hw 20 rfl) (wd hw 21 rfl) d2_1 pd_2 rfl rfl rfl (E_O.ext O.2) (ord_O l Z a0 hw n0 h O s_PC s_OA s_O s_UA s_U H) (Nat.le_of_ble_eq_true rfl) (Nat.le_of_ble_eq_true rfl) (Nat.le_of_ble_eq_true rfl) (Nat.le_of_ble_eq_true rfl) rfl rfl rfl (fun v68 h67 q69 => ?_)
  obtain ⟨rfl, eh67⟩ := q69
  subst h67
  show G w _ h 0 0 4 #[.val (.ref s_O), .val (.ref s_U)] [(.int (4 : Int32))]
  refine g_tsw C (pc' := 113) d2_4 rfl (by decide) rfl (by decide) rfl ?_
  refine g_aloadN C (pc' := 114) d2_113 rfl rfl rfl ?_
  refine g_getS C (pc' := 117) (wd hw 36 rfl) Via.refl d2_114 (S_OA.ext O.2) rfl ?_
  refine g_acmp C (pc' := 124) (same := false) d2_117 rfl rfl rfl (decide_eq_false fun q => (Fld.ne F_U_ordinal F_OA_ordinal (own_ine (by decide))) (Value.ref.inj q)) (by decide) (by decide) ?_
  refine g_iconst C (pc' := 125) (v := (0 : Int32)) d2_124 (by decide) rfl ?_
  exact g_zreturn C d2_125 rfl rfl (Nat.le_of_ble_eq_true rfl) (Nat.le_of_ble_eq_true rfl) (⟨rfl, rfl⟩)
theorem d2_120 : decode prog_6_method_4_code 120 = .ok (.iconst 1, 1) := by decide +kernel
theorem d2_121 : decode prog_6_method_4_code 121 = .ok (.goto 4, 3) := by decide +kernel
set_option maxRecDepth 65536 in
set_option maxHeartbeats 40000000 in
theorem may_O_OA (l : Launch) (Z : State) (a0 : Array Value) (hw : ∀ d ∈ tables_1, d.before a0 Z = true) (n0 : Nat) (h : Heap) (O : Old Z n0 h) (s_PC : Addr) (s_OA : Addr) (s_O : Addr) (s_UA : Addr) (s_U : Addr) (H : En Z s_PC s_OA s_O s_UA s_U) : Con l Z (⟨"com/example/honeyguide/honeyguide/NodeKind", "mayBeAssignedTo", "(Lcom/example/honeyguide/honeyguide/NodeKind;)Z"⟩ : MethodName) prog_6_method_4_code 2 (some .boolean) ({ frames := 1, cells := 0, slots := 0, locals := 12 } : Room) #[(.ref s_O), (.ref s_OA)] h n0 (fun v h' => v = some (.int (1 : Int32)) ∧ h' = h) := by
  refine Con.mk (Ls := #[.val (.ref s_O), .val (.ref s_OA)]) (plainFor_of_name pn_0) (fun m => by first | (simp [entryFrame, mkF, argsToLocals, Value.category]; done) | rfl) (fun w C => ?_)
  replace C : Cx w l Z "com/example/honeyguide/honeyguide/NodeKind" prog_6_method_4_code 2 (some .boolean) "mayBeAssignedTo" ({ frames := 1, cells := 0, slots := 0, locals := 12 } : Room) n0 := C
  obtain ⟨S_PC, E_PC, S_OA, E_OA, S_O, E_O, S_UA, E_UA, S_U, E_U, F_PC_ordinal, F_O_ordinal, F_UA_ordinal, F_U_ordinal, F_OA_ordinal⟩ := id H
  refine g_aloadN C (pc' := 1) d2_0 rfl rfl rfl ?_
  refine g_virtualUp C (pc' := 4) (k' := 0) (n' := 0) (argsL := []) (rest := []) (wd hw 15 rfl) (wd hw 16 rfl) (wd hw 17 rfl) (by decide) (wd hw 19 rfl) (wd hw 18 rfl) (wd hw 20 rfl) (wd hw 21 rfl) d2_1 pd_2 rfl rfl rfl (E_O.ext O.2) (ord_O l Z a0 hw n0 h O s_PC s_OA s_O s_UA s_U H) (Nat.le_of_ble_eq_true rfl) (Nat.le_of_ble_eq_true rfl) (Nat.le_of_ble_eq_true rfl) (Nat.le_of_ble_eq_true rfl) rfl rfl rfl (fun v71 h70 q72 => ?_)
  obtain ⟨rfl, eh70⟩ := q72
  subst h70
  show G w _ h 0 0 4 #[.val (.ref s_O), .val (.ref s_OA)] [(.int (4 : Int32))]
  refine g_tsw C (pc' := 113) d2_4 rfl (by decide) rfl (by decide) rfl ?_
  refine g_aloadN C (pc' := 114) d2_113 rfl rfl rfl ?_
  refine g_getS C (pc' := 117) (wd hw 36 rfl) Via.refl d2_114 (S_OA.ext O.2) rfl ?_
  refine g_acmp C (pc' := 120) (same := true) d2_117 rfl rfl rfl (decide_eq_true rfl) (by decide) (by decide) ?_
  refine g_iconst C (pc' := 121) (v := (1 : Int32)) d2_120 (by decide) rfl ?_
  refine g_goto C (pc' := 125) d2_121 (by decide) rfl ?_
  exact g_zreturn C d2_125 rfl rfl (Nat.le_of_ble_eq_true rfl) (Nat.le_of_ble_eq_true rfl) (⟨rfl, rfl⟩)
set_option maxRecDepth 65536 in
set_option maxHeartbeats 40000000 in
theorem may_O_O (l : Launch) (Z : State) (a0 : Array Value) (hw : ∀ d ∈ tables_1, d.before a0 Z = true) (n0 : Nat) (h : Heap) (O : Old Z n0 h) (s_PC : Addr) (s_OA : Addr) (s_O : Addr) (s_UA : Addr) (s_U : Addr) (H : En Z s_PC s_OA s_O s_UA s_U) : Con l Z (⟨"com/example/honeyguide/honeyguide/NodeKind", "mayBeAssignedTo", "(Lcom/example/honeyguide/honeyguide/NodeKind;)Z"⟩ : MethodName) prog_6_method_4_code 2 (some .boolean) ({ frames := 1, cells := 0, slots := 0, locals := 12 } : Room) #[(.ref s_O), (.ref s_O)] h n0 (fun v h' => v = some (.int (0 : Int32)) ∧ h' = h) := by
  refine Con.mk (Ls := #[.val (.ref s_O), .val (.ref s_O)]) (plainFor_of_name pn_0) (fun m => by first | (simp [entryFrame, mkF, argsToLocals, Value.category]; done) | rfl) (fun w C => ?_)
  replace C : Cx w l Z "com/example/honeyguide/honeyguide/NodeKind" prog_6_method_4_code 2 (some .boolean) "mayBeAssignedTo" ({ frames := 1, cells := 0, slots := 0, locals := 12 } : Room) n0 := C
  obtain ⟨S_PC, E_PC, S_OA, E_OA, S_O, E_O, S_UA, E_UA, S_U, E_U, F_PC_ordinal, F_O_ordinal, F_UA_ordinal, F_U_ordinal, F_OA_ordinal⟩ := id H
  refine g_aloadN C (pc' := 1) d2_0 rfl rfl rfl ?_
  refine g_virtualUp C (pc' := 4) (k' := 0) (n' := 0) (argsL := []) (rest := []) (wd hw 15 rfl) (wd hw 16 rfl) (wd hw 17 rfl) (by decide) (wd hw 19 rfl) (wd hw 18 rfl) (wd hw 20 rfl) (wd hw 21 rfl) d2_1 pd_2 rfl rfl rfl (E_O.ext O.2) (ord_O l Z a0 hw n0 h O s_PC s_OA s_O s_UA s_U H) (Nat.le_of_ble_eq_true rfl) (Nat.le_of_ble_eq_true rfl) (Nat.le_of_ble_eq_true rfl) (Nat.le_of_ble_eq_true rfl) rfl rfl rfl (fun v74 h73 q75 => ?_)
  obtain ⟨rfl, eh73⟩ := q75
  subst h73
  show G w _ h 0 0 4 #[.val (.ref s_O), .val (.ref s_O)] [(.int (4 : Int32))]
  refine g_tsw C (pc' := 113) d2_4 rfl (by decide) rfl (by decide) rfl ?_
  refine g_aloadN C (pc' := 114) d2_113 rfl rfl rfl ?_
  refine g_getS C (pc' := 117) (wd hw 36 rfl) Via.refl d2_114 (S_OA.ext O.2) rfl ?_
  refine g_acmp C (pc' := 124) (same := false) d2_117 rfl rfl rfl (decide_eq_false fun q => (Ne.symm (Fld.ne F_OA_ordinal F_O_ordinal (own_ine (by decide)))) (Value.ref.inj q)) (by decide) (by decide) ?_
  refine g_iconst C (pc' := 125) (v := (0 : Int32)) d2_124 (by decide) rfl ?_
  exact g_zreturn C d2_125 rfl rfl (Nat.le_of_ble_eq_true rfl) (Nat.le_of_ble_eq_true rfl) (⟨rfl, rfl⟩)
theorem pd_0 : parseMethodDescriptor "(I)Lcom/example/honeyguide/honeyguide/NodeKind;" = some ⟨[.int], some (.object "com/example/honeyguide/honeyguide/NodeKind")⟩ := by decide +kernel
theorem pd_1 : parseMethodDescriptor "(Lcom/example/honeyguide/honeyguide/NodeKind;)Z" = some ⟨[(.object "com/example/honeyguide/honeyguide/NodeKind")], some .boolean⟩ := by decide +kernel
theorem pd_3 : parseMethodDescriptor "(Lcom/example/honeyguide/honeyguide/NodeKind;)I" = some ⟨[(.object "com/example/honeyguide/honeyguide/NodeKind")], some .int⟩ := by decide +kernel
set_option maxRecDepth 65536 in
set_option maxHeartbeats 40000000 in
theorem rm0 (l : Launch) (Z : State) (a0 : Array Value) (hw : ∀ d ∈ tables_1, d.before a0 Z = true) (n0 : Nat) (h : Heap) (O : Old Z n0 h) (s_PC : Addr) (s_OA : Addr) (s_O : Addr) (s_UA : Addr) (s_U : Addr) (H : En Z s_PC s_OA s_O s_UA s_U) (p0 p1 : Int32) : Con l Z x code maxLocals ret room_1 #[(.int p0), (.int p1)] h n0 (fun v _ => v = some (.int (1 : Int32))) := by
  refine Con.mk (Ls := #[.val (.int p0), .val (.int p1), .unset, .unset, .unset]) (plainFor_of_name pn_1) (fun m => by first | (simp [entryFrame, mkF, argsToLocals, Value.category, maxLocals]; done) | rfl) (fun w C => ?_)
  replace C : Cx w l Z "com/example/honeyguide/honeyguide/NodeKindMayBeAssignedToPinLaw" code 5 (some .boolean) "law" room_1 n0 := C
  obtain ⟨S_PC, E_PC, S_OA, E_OA, S_O, E_O, S_UA, E_UA, S_U, E_U, F_PC_ordinal, F_O_ordinal, F_UA_ordinal, F_U_ordinal, F_OA_ordinal⟩ := id H
  rcases own_mod5 p0 with e0 | e0 | e0 | e0 | e0
  · rcases own_mod5 p1 with e1 | e1 | e1 | e1 | e1
    · refine g_iloadN C (pc' := 1) at_0 rfl rfl ?_
      refine g_callS C (pc' := 4) (k' := 0) (n' := 0) (argsL := [(.int p0)]) (rest := []) (wd hw 0 rfl) (wd hw 1 rfl) (wd hw 2 rfl) (wd hw 3 rfl) (by decide) at_1 pd_0 rfl rfl rfl (kind_PC l Z a0 hw n0 h O s_PC s_OA s_O s_UA s_U H p0 e0) (Nat.le_of_ble_eq_true rfl) (Nat.le_of_ble_eq_true rfl) (Nat.le_of_ble_eq_true rfl) (Nat.le_of_ble_eq_true rfl) rfl rfl rfl (fun v77 h76 q78 => ?_)
      obtain ⟨rfl, eh76⟩ := q78
      subst h76
      show G w _ h 0 0 4 #[.val (.int p0), .val (.int p1), .unset, .unset, .unset] [(.ref s_PC)]
      refine g_astoreN C (pc' := 5) (Ls' := #[.val (.int p0), .val (.int p1), .val (.ref s_PC), .unset, .unset]) at_4 rfl rfl rfl rfl ?_
      refine g_iloadN C (pc' := 6) at_5 rfl rfl ?_
      refine g_callS C (pc' := 9) (k' := 0) (n' := 0) (argsL := [(.int p1)]) (rest := []) (wd hw 0 rfl) (wd hw 1 rfl) (wd hw 2 rfl) (wd hw 3 rfl) (by decide) at_6 pd_0 rfl rfl rfl (kind_PC l Z a0 hw n0 h O s_PC s_OA s_O s_UA s_U H p1 e1) (Nat.le_of_ble_eq_true rfl) (Nat.le_of_ble_eq_true rfl) (Nat.le_of_ble_eq_true rfl) (Nat.le_of_ble_eq_true rfl) rfl rfl rfl (fun v80 h79 q81 => ?_)
      obtain ⟨rfl, eh79⟩ := q81
      subst h79
      show G w _ h 0 0 9 #[.val (.int p0), .val (.int p1), .val (.ref s_PC), .unset, .unset] [(.ref s_PC)]
      refine g_astoreN C (pc' := 10) (Ls' := #[.val (.int p0), .val (.int p1), .val (.ref s_PC), .val (.ref s_PC), .unset]) at_9 rfl rfl rfl rfl ?_
      refine g_aloadN C (pc' := 11) at_10 rfl rfl rfl ?_
      refine g_getS C (pc' := 14) (wd hw 5 rfl) Via.refl at_11 (S_PC.ext O.2) rfl ?_
      refine g_acmp C (pc' := 17) (same := true) at_14 rfl rfl rfl (decide_eq_true rfl) (by decide) (by decide) ?_
      refine g_iconst C (pc' := 18) (v := (0 : Int32)) at_17 (by decide) rfl ?_
      refine g_istore C (pc' := 20) (Ls' := #[.val (.int p0), .val (.int p1), .val (.ref s_PC), .val (.ref s_PC), .val (.int (0 : Int32))]) at_18 rfl rfl rfl ?_
      refine g_goto C (pc' := 64) at_20 (by decide) rfl ?_
      refine g_aloadN C (pc' := 65) at_64 rfl rfl rfl ?_
      refine g_aloadN C (pc' := 66) at_65 rfl rfl rfl ?_
      refine g_virtual C (pc' := 69) (k' := 0) (n' := 0) (argsL := [(.ref s_PC)]) (rest := []) (wd hw 10 rfl) (wd hw 11 rfl) (nfSel (wd hw 13 rfl)) (wd hw 13 rfl) (wd hw 12 rfl) (wd hw 6 rfl) (wd hw 14 rfl) (by decide) at_66 pd_1 rfl rfl rfl (E_PC.ext O.2) (may_PC_PC l Z a0 hw n0 h O s_PC s_OA s_O s_UA s_U H) (Nat.le_of_ble_eq_true rfl) (Nat.le_of_ble_eq_true rfl) (Nat.le_of_ble_eq_true rfl) (Nat.le_of_ble_eq_true rfl) rfl rfl rfl (fun v83 h82 q84 => ?_)
      obtain ⟨rfl, eh82⟩ := q84
      subst h82
      show G w _ h 0 0 69 #[.val (.int p0), .val (.int p1), .val (.ref s_PC), .val (.ref s_PC), .val (.int (0 : Int32))] [(.int (0 : Int32))]
      refine g_iload C (pc' := 71) at_69 rfl rfl ?_
      refine g_icN C (pc' := 74) at_71 rfl (by decide) rfl ?_
      refine g_iconst C (pc' := 75) (v := (1 : Int32)) at_74 (by decide) rfl ?_
      refine g_goto C (pc' := 79) at_75 (by decide) rfl ?_
      exact g_zreturn C at_79 rfl rfl (Nat.le_of_ble_eq_true rfl) (Nat.le_of_ble_eq_true rfl) (rfl)
    · refine g_iloadN C (pc' := 1) at_0 rfl rfl ?_
      refine g_callS C (pc' := 4) (k' := 0) (n' := 0) (argsL := [(.int p0)]) (rest := []) (wd hw 0 rfl) (wd hw 1 rfl) (wd hw 2 rfl) (wd hw 3 rfl) (by decide) at_1 pd_0 rfl rfl rfl (kind_PC l Z a0 hw n0 h O s_PC s_OA s_O s_UA s_U H p0 e0) (Nat.le_of_ble_eq_true rfl) (Nat.le_of_ble_eq_true rfl) (Nat.le_of_ble_eq_true rfl) (Nat.le_of_ble_eq_true rfl) rfl rfl rfl (fun v86 h85 q87 => ?_)
      obtain ⟨rfl, eh85⟩ := q87
      subst h85
      show G w _ h 0 0 4 #[.val (.int p0), .val (.int p1), .unset, .unset, .unset] [(.ref s_PC)]
      refine g_astoreN C (pc' := 5) (Ls' := #[.val (.int p0), .val (.int p1), .val (.ref s_PC), .unset, .unset]) at_4 rfl rfl rfl rfl ?_
      refine g_iloadN C (pc' := 6) at_5 rfl rfl ?_
      refine g_callS C (pc' := 9) (k' := 0) (n' := 0) (argsL := [(.int p1)]) (rest := []) (wd hw 0 rfl) (wd hw 1 rfl) (wd hw 2 rfl) (wd hw 3 rfl) (by decide) at_6 pd_0 rfl rfl rfl (kind_UA l Z a0 hw n0 h O s_PC s_OA s_O s_UA s_U H p1 e1) (Nat.le_of_ble_eq_true rfl) (Nat.le_of_ble_eq_true rfl) (Nat.le_of_ble_eq_true rfl) (Nat.le_of_ble_eq_true rfl) rfl rfl rfl (fun v89 h88 q90 => ?_)
      obtain ⟨rfl, eh88⟩ := q90
      subst h88
      show G w _ h 0 0 9 #[.val (.int p0), .val (.int p1), .val (.ref s_PC), .unset, .unset] [(.ref s_UA)]
      refine g_astoreN C (pc' := 10) (Ls' := #[.val (.int p0), .val (.int p1), .val (.ref s_PC), .val (.ref s_UA), .unset]) at_9 rfl rfl rfl rfl ?_
      refine g_aloadN C (pc' := 11) at_10 rfl rfl rfl ?_
      refine g_getS C (pc' := 14) (wd hw 5 rfl) Via.refl at_11 (S_PC.ext O.2) rfl ?_
      refine g_acmp C (pc' := 17) (same := true) at_14 rfl rfl rfl (decide_eq_true rfl) (by decide) (by decide) ?_
      refine g_iconst C (pc' := 18) (v := (0 : Int32)) at_17 (by decide) rfl ?_
      refine g_istore C (pc' := 20) (Ls' := #[.val (.int p0), .val (.int p1), .val (.ref s_PC), .val (.ref s_UA), .val (.int (0 : Int32))]) at_18 rfl rfl rfl ?_
      refine g_goto C (pc' := 64) at_20 (by decide) rfl ?_
      refine g_aloadN C (pc' := 65) at_64 rfl rfl rfl ?_
      refine g_aloadN C (pc' := 66) at_65 rfl rfl rfl ?_
      refine g_virtual C (pc' := 69) (k' := 0) (n' := 0) (argsL := [(.ref s_UA)]) (rest := []) (wd hw 10 rfl) (wd hw 11 rfl) (nfSel (wd hw 13 rfl)) (wd hw 13 rfl) (wd hw 12 rfl) (wd hw 6 rfl) (wd hw 14 rfl) (by decide) at_66 pd_1 rfl rfl rfl (E_PC.ext O.2) (may_PC_UA l Z a0 hw n0 h O s_PC s_OA s_O s_UA s_U H) (Nat.le_of_ble_eq_true rfl) (Nat.le_of_ble_eq_true rfl) (Nat.le_of_ble_eq_true rfl) (Nat.le_of_ble_eq_true rfl) rfl rfl rfl (fun v92 h91 q93 => ?_)
      obtain ⟨rfl, eh91⟩ := q93
      subst h91
      show G w _ h 0 0 69 #[.val (.int p0), .val (.int p1), .val (.ref s_PC), .val (.ref s_UA), .val (.int (0 : Int32))] [(.int (0 : Int32))]
      refine g_iload C (pc' := 71) at_69 rfl rfl ?_
      refine g_icN C (pc' := 74) at_71 rfl (by decide) rfl ?_
      refine g_iconst C (pc' := 75) (v := (1 : Int32)) at_74 (by decide) rfl ?_
      refine g_goto C (pc' := 79) at_75 (by decide) rfl ?_
      exact g_zreturn C at_79 rfl rfl (Nat.le_of_ble_eq_true rfl) (Nat.le_of_ble_eq_true rfl) (rfl)
    · refine g_iloadN C (pc' := 1) at_0 rfl rfl ?_
      refine g_callS C (pc' := 4) (k' := 0) (n' := 0) (argsL := [(.int p0)]) (rest := []) (wd hw 0 rfl) (wd hw 1 rfl) (wd hw 2 rfl) (wd hw 3 rfl) (by decide) at_1 pd_0 rfl rfl rfl (kind_PC l Z a0 hw n0 h O s_PC s_OA s_O s_UA s_U H p0 e0) (Nat.le_of_ble_eq_true rfl) (Nat.le_of_ble_eq_true rfl) (Nat.le_of_ble_eq_true rfl) (Nat.le_of_ble_eq_true rfl) rfl rfl rfl (fun v95 h94 q96 => ?_)
      obtain ⟨rfl, eh94⟩ := q96
      subst h94
      show G w _ h 0 0 4 #[.val (.int p0), .val (.int p1), .unset, .unset, .unset] [(.ref s_PC)]
      refine g_astoreN C (pc' := 5) (Ls' := #[.val (.int p0), .val (.int p1), .val (.ref s_PC), .unset, .unset]) at_4 rfl rfl rfl rfl ?_
      refine g_iloadN C (pc' := 6) at_5 rfl rfl ?_
      refine g_callS C (pc' := 9) (k' := 0) (n' := 0) (argsL := [(.int p1)]) (rest := []) (wd hw 0 rfl) (wd hw 1 rfl) (wd hw 2 rfl) (wd hw 3 rfl) (by decide) at_6 pd_0 rfl rfl rfl (kind_U l Z a0 hw n0 h O s_PC s_OA s_O s_UA s_U H p1 e1) (Nat.le_of_ble_eq_true rfl) (Nat.le_of_ble_eq_true rfl) (Nat.le_of_ble_eq_true rfl) (Nat.le_of_ble_eq_true rfl) rfl rfl rfl (fun v98 h97 q99 => ?_)
      obtain ⟨rfl, eh97⟩ := q99
      subst h97
      show G w _ h 0 0 9 #[.val (.int p0), .val (.int p1), .val (.ref s_PC), .unset, .unset] [(.ref s_U)]
      refine g_astoreN C (pc' := 10) (Ls' := #[.val (.int p0), .val (.int p1), .val (.ref s_PC), .val (.ref s_U), .unset]) at_9 rfl rfl rfl rfl ?_
      refine g_aloadN C (pc' := 11) at_10 rfl rfl rfl ?_
      refine g_getS C (pc' := 14) (wd hw 5 rfl) Via.refl at_11 (S_PC.ext O.2) rfl ?_
      refine g_acmp C (pc' := 17) (same := true) at_14 rfl rfl rfl (decide_eq_true rfl) (by decide) (by decide) ?_
      refine g_iconst C (pc' := 18) (v := (0 : Int32)) at_17 (by decide) rfl ?_
      refine g_istore C (pc' := 20) (Ls' := #[.val (.int p0), .val (.int p1), .val (.ref s_PC), .val (.ref s_U), .val (.int (0 : Int32))]) at_18 rfl rfl rfl ?_
      refine g_goto C (pc' := 64) at_20 (by decide) rfl ?_
      refine g_aloadN C (pc' := 65) at_64 rfl rfl rfl ?_
      refine g_aloadN C (pc' := 66) at_65 rfl rfl rfl ?_
      refine g_virtual C (pc' := 69) (k' := 0) (n' := 0) (argsL := [(.ref s_U)]) (rest := []) (wd hw 10 rfl) (wd hw 11 rfl) (nfSel (wd hw 13 rfl)) (wd hw 13 rfl) (wd hw 12 rfl) (wd hw 6 rfl) (wd hw 14 rfl) (by decide) at_66 pd_1 rfl rfl rfl (E_PC.ext O.2) (may_PC_U l Z a0 hw n0 h O s_PC s_OA s_O s_UA s_U H) (Nat.le_of_ble_eq_true rfl) (Nat.le_of_ble_eq_true rfl) (Nat.le_of_ble_eq_true rfl) (Nat.le_of_ble_eq_true rfl) rfl rfl rfl (fun v101 h100 q102 => ?_)
      obtain ⟨rfl, eh100⟩ := q102
      subst h100
      show G w _ h 0 0 69 #[.val (.int p0), .val (.int p1), .val (.ref s_PC), .val (.ref s_U), .val (.int (0 : Int32))] [(.int (0 : Int32))]
      refine g_iload C (pc' := 71) at_69 rfl rfl ?_
      refine g_icN C (pc' := 74) at_71 rfl (by decide) rfl ?_
      refine g_iconst C (pc' := 75) (v := (1 : Int32)) at_74 (by decide) rfl ?_
      refine g_goto C (pc' := 79) at_75 (by decide) rfl ?_
      exact g_zreturn C at_79 rfl rfl (Nat.le_of_ble_eq_true rfl) (Nat.le_of_ble_eq_true rfl) (rfl)
    · refine g_iloadN C (pc' := 1) at_0 rfl rfl ?_
      refine g_callS C (pc' := 4) (k' := 0) (n' := 0) (argsL := [(.int p0)]) (rest := []) (wd hw 0 rfl) (wd hw 1 rfl) (wd hw 2 rfl) (wd hw 3 rfl) (by decide) at_1 pd_0 rfl rfl rfl (kind_PC l Z a0 hw n0 h O s_PC s_OA s_O s_UA s_U H p0 e0) (Nat.le_of_ble_eq_true rfl) (Nat.le_of_ble_eq_true rfl) (Nat.le_of_ble_eq_true rfl) (Nat.le_of_ble_eq_true rfl) rfl rfl rfl (fun v104 h103 q105 => ?_)
      obtain ⟨rfl, eh103⟩ := q105
      subst h103
      show G w _ h 0 0 4 #[.val (.int p0), .val (.int p1), .unset, .unset, .unset] [(.ref s_PC)]
      refine g_astoreN C (pc' := 5) (Ls' := #[.val (.int p0), .val (.int p1), .val (.ref s_PC), .unset, .unset]) at_4 rfl rfl rfl rfl ?_
      refine g_iloadN C (pc' := 6) at_5 rfl rfl ?_
      refine g_callS C (pc' := 9) (k' := 0) (n' := 0) (argsL := [(.int p1)]) (rest := []) (wd hw 0 rfl) (wd hw 1 rfl) (wd hw 2 rfl) (wd hw 3 rfl) (by decide) at_6 pd_0 rfl rfl rfl (kind_OA l Z a0 hw n0 h O s_PC s_OA s_O s_UA s_U H p1 e1) (Nat.le_of_ble_eq_true rfl) (Nat.le_of_ble_eq_true rfl) (Nat.le_of_ble_eq_true rfl) (Nat.le_of_ble_eq_true rfl) rfl rfl rfl (fun v107 h106 q108 => ?_)
      obtain ⟨rfl, eh106⟩ := q108
      subst h106
      show G w _ h 0 0 9 #[.val (.int p0), .val (.int p1), .val (.ref s_PC), .unset, .unset] [(.ref s_OA)]
      refine g_astoreN C (pc' := 10) (Ls' := #[.val (.int p0), .val (.int p1), .val (.ref s_PC), .val (.ref s_OA), .unset]) at_9 rfl rfl rfl rfl ?_
      refine g_aloadN C (pc' := 11) at_10 rfl rfl rfl ?_
      refine g_getS C (pc' := 14) (wd hw 5 rfl) Via.refl at_11 (S_PC.ext O.2) rfl ?_
      refine g_acmp C (pc' := 17) (same := true) at_14 rfl rfl rfl (decide_eq_true rfl) (by decide) (by decide) ?_
      refine g_iconst C (pc' := 18) (v := (0 : Int32)) at_17 (by decide) rfl ?_
      refine g_istore C (pc' := 20) (Ls' := #[.val (.int p0), .val (.int p1), .val (.ref s_PC), .val (.ref s_OA), .val (.int (0 : Int32))]) at_18 rfl rfl rfl ?_
      refine g_goto C (pc' := 64) at_20 (by decide) rfl ?_
      refine g_aloadN C (pc' := 65) at_64 rfl rfl rfl ?_
      refine g_aloadN C (pc' := 66) at_65 rfl rfl rfl ?_
      refine g_virtual C (pc' := 69) (k' := 0) (n' := 0) (argsL := [(.ref s_OA)]) (rest := []) (wd hw 10 rfl) (wd hw 11 rfl) (nfSel (wd hw 13 rfl)) (wd hw 13 rfl) (wd hw 12 rfl) (wd hw 6 rfl) (wd hw 14 rfl) (by decide) at_66 pd_1 rfl rfl rfl (E_PC.ext O.2) (may_PC_OA l Z a0 hw n0 h O s_PC s_OA s_O s_UA s_U H) (Nat.le_of_ble_eq_true rfl) (Nat.le_of_ble_eq_true rfl) (Nat.le_of_ble_eq_true rfl) (Nat.le_of_ble_eq_true rfl) rfl rfl rfl (fun v110 h109 q111 => ?_)
      obtain ⟨rfl, eh109⟩ := q111
      subst h109
      show G w _ h 0 0 69 #[.val (.int p0), .val (.int p1), .val (.ref s_PC), .val (.ref s_OA), .val (.int (0 : Int32))] [(.int (0 : Int32))]
      refine g_iload C (pc' := 71) at_69 rfl rfl ?_
      refine g_icN C (pc' := 74) at_71 rfl (by decide) rfl ?_
      refine g_iconst C (pc' := 75) (v := (1 : Int32)) at_74 (by decide) rfl ?_
      refine g_goto C (pc' := 79) at_75 (by decide) rfl ?_
      exact g_zreturn C at_79 rfl rfl (Nat.le_of_ble_eq_true rfl) (Nat.le_of_ble_eq_true rfl) (rfl)
    · refine g_iloadN C (pc' := 1) at_0 rfl rfl ?_
      refine g_callS C (pc' := 4) (k' := 0) (n' := 0) (argsL := [(.int p0)]) (rest := []) (wd hw 0 rfl) (wd hw 1 rfl) (wd hw 2 rfl) (wd hw 3 rfl) (by decide) at_1 pd_0 rfl rfl rfl (kind_PC l Z a0 hw n0 h O s_PC s_OA s_O s_UA s_U H p0 e0) (Nat.le_of_ble_eq_true rfl) (Nat.le_of_ble_eq_true rfl) (Nat.le_of_ble_eq_true rfl) (Nat.le_of_ble_eq_true rfl) rfl rfl rfl (fun v113 h112 q114 => ?_)
      obtain ⟨rfl, eh112⟩ := q114
      subst h112
      show G w _ h 0 0 4 #[.val (.int p0), .val (.int p1), .unset, .unset, .unset] [(.ref s_PC)]
      refine g_astoreN C (pc' := 5) (Ls' := #[.val (.int p0), .val (.int p1), .val (.ref s_PC), .unset, .unset]) at_4 rfl rfl rfl rfl ?_
      refine g_iloadN C (pc' := 6) at_5 rfl rfl ?_
      refine g_callS C (pc' := 9) (k' := 0) (n' := 0) (argsL := [(.int p1)]) (rest := []) (wd hw 0 rfl) (wd hw 1 rfl) (wd hw 2 rfl) (wd hw 3 rfl) (by decide) at_6 pd_0 rfl rfl rfl (kind_O l Z a0 hw n0 h O s_PC s_OA s_O s_UA s_U H p1 e1) (Nat.le_of_ble_eq_true rfl) (Nat.le_of_ble_eq_true rfl) (Nat.le_of_ble_eq_true rfl) (Nat.le_of_ble_eq_true rfl) rfl rfl rfl (fun v116 h115 q117 => ?_)
      obtain ⟨rfl, eh115⟩ := q117
      subst h115
      show G w _ h 0 0 9 #[.val (.int p0), .val (.int p1), .val (.ref s_PC), .unset, .unset] [(.ref s_O)]
      refine g_astoreN C (pc' := 10) (Ls' := #[.val (.int p0), .val (.int p1), .val (.ref s_PC), .val (.ref s_O), .unset]) at_9 rfl rfl rfl rfl ?_
      refine g_aloadN C (pc' := 11) at_10 rfl rfl rfl ?_
      refine g_getS C (pc' := 14) (wd hw 5 rfl) Via.refl at_11 (S_PC.ext O.2) rfl ?_
      refine g_acmp C (pc' := 17) (same := true) at_14 rfl rfl rfl (decide_eq_true rfl) (by decide) (by decide) ?_
      refine g_iconst C (pc' := 18) (v := (0 : Int32)) at_17 (by decide) rfl ?_
      refine g_istore C (pc' := 20) (Ls' := #[.val (.int p0), .val (.int p1), .val (.ref s_PC), .val (.ref s_O), .val (.int (0 : Int32))]) at_18 rfl rfl rfl ?_
      refine g_goto C (pc' := 64) at_20 (by decide) rfl ?_
      refine g_aloadN C (pc' := 65) at_64 rfl rfl rfl ?_
      refine g_aloadN C (pc' := 66) at_65 rfl rfl rfl ?_
      refine g_virtual C (pc' := 69) (k' := 0) (n' := 0) (argsL := [(.ref s_O)]) (rest := []) (wd hw 10 rfl) (wd hw 11 rfl) (nfSel (wd hw 13 rfl)) (wd hw 13 rfl) (wd hw 12 rfl) (wd hw 6 rfl) (wd hw 14 rfl) (by decide) at_66 pd_1 rfl rfl rfl (E_PC.ext O.2) (may_PC_O l Z a0 hw n0 h O s_PC s_OA s_O s_UA s_U H) (Nat.le_of_ble_eq_true rfl) (Nat.le_of_ble_eq_true rfl) (Nat.le_of_ble_eq_true rfl) (Nat.le_of_ble_eq_true rfl) rfl rfl rfl (fun v119 h118 q120 => ?_)
      obtain ⟨rfl, eh118⟩ := q120
      subst h118
      show G w _ h 0 0 69 #[.val (.int p0), .val (.int p1), .val (.ref s_PC), .val (.ref s_O), .val (.int (0 : Int32))] [(.int (0 : Int32))]
      refine g_iload C (pc' := 71) at_69 rfl rfl ?_
      refine g_icN C (pc' := 74) at_71 rfl (by decide) rfl ?_
      refine g_iconst C (pc' := 75) (v := (1 : Int32)) at_74 (by decide) rfl ?_
      refine g_goto C (pc' := 79) at_75 (by decide) rfl ?_
      exact g_zreturn C at_79 rfl rfl (Nat.le_of_ble_eq_true rfl) (Nat.le_of_ble_eq_true rfl) (rfl)
  · rcases own_mod5 p1 with e1 | e1 | e1 | e1 | e1
    · refine g_iloadN C (pc' := 1) at_0 rfl rfl ?_
      refine g_callS C (pc' := 4) (k' := 0) (n' := 0) (argsL := [(.int p0)]) (rest := []) (wd hw 0 rfl) (wd hw 1 rfl) (wd hw 2 rfl) (wd hw 3 rfl) (by decide) at_1 pd_0 rfl rfl rfl (kind_UA l Z a0 hw n0 h O s_PC s_OA s_O s_UA s_U H p0 e0) (Nat.le_of_ble_eq_true rfl) (Nat.le_of_ble_eq_true rfl) (Nat.le_of_ble_eq_true rfl) (Nat.le_of_ble_eq_true rfl) rfl rfl rfl (fun v122 h121 q123 => ?_)
      obtain ⟨rfl, eh121⟩ := q123
      subst h121
      show G w _ h 0 0 4 #[.val (.int p0), .val (.int p1), .unset, .unset, .unset] [(.ref s_UA)]
      refine g_astoreN C (pc' := 5) (Ls' := #[.val (.int p0), .val (.int p1), .val (.ref s_UA), .unset, .unset]) at_4 rfl rfl rfl rfl ?_
      refine g_iloadN C (pc' := 6) at_5 rfl rfl ?_
      refine g_callS C (pc' := 9) (k' := 0) (n' := 0) (argsL := [(.int p1)]) (rest := []) (wd hw 0 rfl) (wd hw 1 rfl) (wd hw 2 rfl) (wd hw 3 rfl) (by decide) at_6 pd_0 rfl rfl rfl (kind_PC l Z a0 hw n0 h O s_PC s_OA s_O s_UA s_U H p1 e1) (Nat.le_of_ble_eq_true rfl) (Nat.le_of_ble_eq_true rfl) (Nat.le_of_ble_eq_true rfl) (Nat.le_of_ble_eq_true rfl) rfl rfl rfl (fun v125 h124 q126 => ?_)
      obtain ⟨rfl, eh124⟩ := q126
      subst h124
      show G w _ h 0 0 9 #[.val (.int p0), .val (.int p1), .val (.ref s_UA), .unset, .unset] [(.ref s_PC)]
      refine g_astoreN C (pc' := 10) (Ls' := #[.val (.int p0), .val (.int p1), .val (.ref s_UA), .val (.ref s_PC), .unset]) at_9 rfl rfl rfl rfl ?_
      refine g_aloadN C (pc' := 11) at_10 rfl rfl rfl ?_
      refine g_getS C (pc' := 14) (wd hw 5 rfl) Via.refl at_11 (S_PC.ext O.2) rfl ?_
      refine g_acmp C (pc' := 23) (same := false) at_14 rfl rfl rfl (decide_eq_false fun q => (Ne.symm (Fld.ne F_PC_ordinal F_UA_ordinal (own_ine (by decide)))) (Value.ref.inj q)) (by decide) (by decide) ?_
      refine g_aloadN C (pc' := 24) at_23 rfl rfl rfl ?_
      refine g_getS C (pc' := 27) (wd hw 5 rfl) Via.refl at_24 (S_PC.ext O.2) rfl ?_
      refine g_acmp C (pc' := 30) (same := true) at_27 rfl rfl rfl (decide_eq_true rfl) (by decide) (by decide) ?_
      refine g_aloadN C (pc' := 31) at_30 rfl rfl rfl ?_
      refine g_callS C (pc' := 34) (k' := 0) (n' := 0) (argsL := [(.ref s_UA)]) (rest := []) (wd hw 28 rfl) (wd hw 29 rfl) (wd hw 2 rfl) (wd hw 30 rfl) (by decide) at_31 pd_1 rfl rfl rfl (isA_UA l Z a0 hw n0 h O s_PC s_OA s_O s_UA s_U H) (Nat.le_of_ble_eq_true rfl) (Nat.le_of_ble_eq_true rfl) (Nat.le_of_ble_eq_true rfl) (Nat.le_of_ble_eq_true rfl) rfl rfl rfl (fun v128 h127 q129 => ?_)
      obtain ⟨rfl, eh127⟩ := q129
      subst h127
      show G w _ h 0 0 34 #[.val (.int p0), .val (.int p1), .val (.ref s_UA), .val (.ref s_PC), .unset] [(.int (1 : Int32))]
      refine g_istore C (pc' := 36) (Ls' := #[.val (.int p0), .val (.int p1), .val (.ref s_UA), .val (.ref s_PC), .val (.int (1 : Int32))]) at_34 rfl rfl rfl ?_
      refine g_goto C (pc' := 64) at_36 (by decide) rfl ?_
      refine g_aloadN C (pc' := 65) at_64 rfl rfl rfl ?_
      refine g_aloadN C (pc' := 66) at_65 rfl rfl rfl ?_
      refine g_virtual C (pc' := 69) (k' := 0) (n' := 0) (argsL := [(.ref s_PC)]) (rest := []) (wd hw 10 rfl) (wd hw 11 rfl) (nfSel (wd hw 13 rfl)) (wd hw 13 rfl) (wd hw 12 rfl) (wd hw 6 rfl) (wd hw 14 rfl) (by decide) at_66 pd_1 rfl rfl rfl (E_UA.ext O.2) (may_UA_PC l Z a0 hw n0 h O s_PC s_OA s_O s_UA s_U H) (Nat.le_of_ble_eq_true rfl) (Nat.le_of_ble_eq_true rfl) (Nat.le_of_ble_eq_true rfl) (Nat.le_of_ble_eq_true rfl) rfl rfl rfl (fun v131 h130 q132 => ?_)
      obtain ⟨rfl, eh130⟩ := q132
      subst h130
      show G w _ h 0 0 69 #[.val (.int p0), .val (.int p1), .val (.ref s_UA), .val (.ref s_PC), .val (.int (1 : Int32))] [(.int (1 : Int32))]
      refine g_iload C (pc' := 71) at_69 rfl rfl ?_
      refine g_icN C (pc' := 74) at_71 rfl (by decide) rfl ?_
      refine g_iconst C (pc' := 75) (v := (1 : Int32)) at_74 (by decide) rfl ?_
      refine g_goto C (pc' := 79) at_75 (by decide) rfl ?_
      exact g_zreturn C at_79 rfl rfl (Nat.le_of_ble_eq_true rfl) (Nat.le_of_ble_eq_true rfl) (rfl)
    · refine g_iloadN C (pc' := 1) at_0 rfl rfl ?_
      refine g_callS C (pc' := 4) (k' := 0) (n' := 0) (argsL := [(.int p0)]) (rest := []) (wd hw 0 rfl) (wd hw 1 rfl) (wd hw 2 rfl) (wd hw 3 rfl) (by decide) at_1 pd_0 rfl rfl rfl (kind_UA l Z a0 hw n0 h O s_PC s_OA s_O s_UA s_U H p0 e0) (Nat.le_of_ble_eq_true rfl) (Nat.le_of_ble_eq_true rfl) (Nat.le_of_ble_eq_true rfl) (Nat.le_of_ble_eq_true rfl) rfl rfl rfl (fun v134 h133 q135 => ?_)
      obtain ⟨rfl, eh133⟩ := q135
      subst h133
      show G w _ h 0 0 4 #[.val (.int p0), .val (.int p1), .unset, .unset, .unset] [(.ref s_UA)]
      refine g_astoreN C (pc' := 5) (Ls' := #[.val (.int p0), .val (.int p1), .val (.ref s_UA), .unset, .unset]) at_4 rfl rfl rfl rfl ?_
      refine g_iloadN C (pc' := 6) at_5 rfl rfl ?_
      refine g_callS C (pc' := 9) (k' := 0) (n' := 0) (argsL := [(.int p1)]) (rest := []) (wd hw 0 rfl) (wd hw 1 rfl) (wd hw 2 rfl) (wd hw 3 rfl) (by decide) at_6 pd_0 rfl rfl rfl (kind_UA l Z a0 hw n0 h O s_PC s_OA s_O s_UA s_U H p1 e1) (Nat.le_of_ble_eq_true rfl) (Nat.le_of_ble_eq_true rfl) (Nat.le_of_ble_eq_true rfl) (Nat.le_of_ble_eq_true rfl) rfl rfl rfl (fun v137 h136 q138 => ?_)
      obtain ⟨rfl, eh136⟩ := q138
      subst h136
      show G w _ h 0 0 9 #[.val (.int p0), .val (.int p1), .val (.ref s_UA), .unset, .unset] [(.ref s_UA)]
      refine g_astoreN C (pc' := 10) (Ls' := #[.val (.int p0), .val (.int p1), .val (.ref s_UA), .val (.ref s_UA), .unset]) at_9 rfl rfl rfl rfl ?_
      refine g_aloadN C (pc' := 11) at_10 rfl rfl rfl ?_
      refine g_getS C (pc' := 14) (wd hw 5 rfl) Via.refl at_11 (S_PC.ext O.2) rfl ?_
      refine g_acmp C (pc' := 23) (same := false) at_14 rfl rfl rfl (decide_eq_false fun q => (Ne.symm (Fld.ne F_PC_ordinal F_UA_ordinal (own_ine (by decide)))) (Value.ref.inj q)) (by decide) (by decide) ?_
      refine g_aloadN C (pc' := 24) at_23 rfl rfl rfl ?_
      refine g_getS C (pc' := 27) (wd hw 5 rfl) Via.refl at_24 (S_PC.ext O.2) rfl ?_
      refine g_acmp C (pc' := 39) (same := false) at_27 rfl rfl rfl (decide_eq_false fun q => (Ne.symm (Fld.ne F_PC_ordinal F_UA_ordinal (own_ine (by decide)))) (Value.ref.inj q)) (by decide) (by decide) ?_
      refine g_aloadN C (pc' := 40) at_39 rfl rfl rfl ?_
      refine g_callS C (pc' := 43) (k' := 0) (n' := 0) (argsL := [(.ref s_UA)]) (rest := []) (wd hw 28 rfl) (wd hw 29 rfl) (wd hw 2 rfl) (wd hw 30 rfl) (by decide) at_40 pd_1 rfl rfl rfl (isA_UA l Z a0 hw n0 h O s_PC s_OA s_O s_UA s_U H) (Nat.le_of_ble_eq_true rfl) (Nat.le_of_ble_eq_true rfl) (Nat.le_of_ble_eq_true rfl) (Nat.le_of_ble_eq_true rfl) rfl rfl rfl (fun v140 h139 q141 => ?_)
      obtain ⟨rfl, eh139⟩ := q141
      subst h139
      show G w _ h 0 0 43 #[.val (.int p0), .val (.int p1), .val (.ref s_UA), .val (.ref s_UA), .unset] [(.int (1 : Int32))]
      refine g_ifN C (pc' := 46) at_43 rfl (by decide) rfl ?_
      refine g_aloadN C (pc' := 47) at_46 rfl rfl rfl ?_
      refine g_callS C (pc' := 50) (k' := 0) (n' := 0) (argsL := [(.ref s_UA)]) (rest := []) (wd hw 31 rfl) (wd hw 32 rfl) (wd hw 2 rfl) (wd hw 33 rfl) (by decide) at_47 pd_3 rfl rfl rfl (side_UA l Z a0 hw n0 h O s_PC s_OA s_O s_UA s_U H) (Nat.le_of_ble_eq_true rfl) (Nat.le_of_ble_eq_true rfl) (Nat.le_of_ble_eq_true rfl) (Nat.le_of_ble_eq_true rfl) rfl rfl rfl (fun v143 h142 q144 => ?_)
      obtain ⟨rfl, eh142⟩ := q144
      subst h142
      show G w _ h 0 0 50 #[.val (.int p0), .val (.int p1), .val (.ref s_UA), .val (.ref s_UA), .unset] [(.int (1 : Int32))]
      refine g_aloadN C (pc' := 51) at_50 rfl rfl rfl ?_
      refine g_callS C (pc' := 54) (k' := 0) (n' := 0) (argsL := [(.ref s_UA)]) (rest := [(.int (1 : Int32))]) (wd hw 31 rfl) (wd hw 32 rfl) (wd hw 2 rfl) (wd hw 33 rfl) (by decide) at_51 pd_3 rfl rfl rfl (side_UA l Z a0 hw n0 h O s_PC s_OA s_O s_UA s_U H) (Nat.le_of_ble_eq_true rfl) (Nat.le_of_ble_eq_true rfl) (Nat.le_of_ble_eq_true rfl) (Nat.le_of_ble_eq_true rfl) rfl rfl rfl (fun v146 h145 q147 => ?_)
      obtain ⟨rfl, eh145⟩ := q147
      subst h145
      show G w _ h 0 0 54 #[.val (.int p0), .val (.int p1), .val (.ref s_UA), .val (.ref s_UA), .unset] [(.int (1 : Int32)), (.int (1 : Int32))]
      refine g_icN C (pc' := 57) at_54 rfl (by decide) rfl ?_
      refine g_iconst C (pc' := 58) (v := (1 : Int32)) at_57 (by decide) rfl ?_
      refine g_goto C (pc' := 62) at_58 (by decide) rfl ?_
      refine g_istore C (pc' := 64) (Ls' := #[.val (.int p0), .val (.int p1), .val (.ref s_UA), .val (.ref s_UA), .val (.int (1 : Int32))]) at_62 rfl rfl rfl ?_
      refine g_aloadN C (pc' := 65) at_64 rfl rfl rfl ?_
      refine g_aloadN C (pc' := 66) at_65 rfl rfl rfl ?_
      refine g_virtual C (pc' := 69) (k' := 0) (n' := 0) (argsL := [(.ref s_UA)]) (rest := []) (wd hw 10 rfl) (wd hw 11 rfl) (nfSel (wd hw 13 rfl)) (wd hw 13 rfl) (wd hw 12 rfl) (wd hw 6 rfl) (wd hw 14 rfl) (by decide) at_66 pd_1 rfl rfl rfl (E_UA.ext O.2) (may_UA_UA l Z a0 hw n0 h O s_PC s_OA s_O s_UA s_U H) (Nat.le_of_ble_eq_true rfl) (Nat.le_of_ble_eq_true rfl) (Nat.le_of_ble_eq_true rfl) (Nat.le_of_ble_eq_true rfl) rfl rfl rfl (fun v149 h148 q150 => ?_)
      obtain ⟨rfl, eh148⟩ := q150
      subst h148
      show G w _ h 0 0 69 #[.val (.int p0), .val (.int p1), .val (.ref s_UA), .val (.ref s_UA), .val (.int (1 : Int32))] [(.int (1 : Int32))]
      refine g_iload C (pc' := 71) at_69 rfl rfl ?_
      refine g_icN C (pc' := 74) at_71 rfl (by decide) rfl ?_
      refine g_iconst C (pc' := 75) (v := (1 : Int32)) at_74 (by decide) rfl ?_
      refine g_goto C (pc' := 79) at_75 (by decide) rfl ?_
      exact g_zreturn C at_79 rfl rfl (Nat.le_of_ble_eq_true rfl) (Nat.le_of_ble_eq_true rfl) (rfl)
    · refine g_iloadN C (pc' := 1) at_0 rfl rfl ?_
      refine g_callS C (pc' := 4) (k' := 0) (n' := 0) (argsL := [(.int p0)]) (rest := []) (wd hw 0 rfl) (wd hw 1 rfl) (wd hw 2 rfl) (wd hw 3 rfl) (by decide) at_1 pd_0 rfl rfl rfl (kind_UA l Z a0 hw n0 h O s_PC s_OA s_O s_UA s_U H p0 e0) (Nat.le_of_ble_eq_true rfl) (Nat.le_of_ble_eq_true rfl) (Nat.le_of_ble_eq_true rfl) (Nat.le_of_ble_eq_true rfl) rfl rfl rfl (fun v152 h151 q153 => ?_)
      obtain ⟨rfl, eh151⟩ := q153
      subst h151
      show G w _ h 0 0 4 #[.val (.int p0), .val (.int p1), .unset, .unset, .unset] [(.ref s_UA)]
      refine g_astoreN C (pc' := 5) (Ls' := #[.val (.int p0), .val (.int p1), .val (.ref s_UA), .unset, .unset]) at_4 rfl rfl rfl rfl ?_
      refine g_iloadN C (pc' := 6) at_5 rfl rfl ?_
      refine g_callS C (pc' := 9) (k' := 0) (n' := 0) (argsL := [(.int p1)]) (rest := []) (wd hw 0 rfl) (wd hw 1 rfl) (wd hw 2 rfl) (wd hw 3 rfl) (by decide) at_6 pd_0 rfl rfl rfl (kind_U l Z a0 hw n0 h O s_PC s_OA s_O s_UA s_U H p1 e1) (Nat.le_of_ble_eq_true rfl) (Nat.le_of_ble_eq_true rfl) (Nat.le_of_ble_eq_true rfl) (Nat.le_of_ble_eq_true rfl) rfl rfl rfl (fun v155 h154 q156 => ?_)
      obtain ⟨rfl, eh154⟩ := q156
      subst h154
      show G w _ h 0 0 9 #[.val (.int p0), .val (.int p1), .val (.ref s_UA), .unset, .unset] [(.ref s_U)]
      refine g_astoreN C (pc' := 10) (Ls' := #[.val (.int p0), .val (.int p1), .val (.ref s_UA), .val (.ref s_U), .unset]) at_9 rfl rfl rfl rfl ?_
      refine g_aloadN C (pc' := 11) at_10 rfl rfl rfl ?_
      refine g_getS C (pc' := 14) (wd hw 5 rfl) Via.refl at_11 (S_PC.ext O.2) rfl ?_
      refine g_acmp C (pc' := 23) (same := false) at_14 rfl rfl rfl (decide_eq_false fun q => (Ne.symm (Fld.ne F_PC_ordinal F_UA_ordinal (own_ine (by decide)))) (Value.ref.inj q)) (by decide) (by decide) ?_
      refine g_aloadN C (pc' := 24) at_23 rfl rfl rfl ?_
      refine g_getS C (pc' := 27) (wd hw 5 rfl) Via.refl at_24 (S_PC.ext O.2) rfl ?_
      refine g_acmp C (pc' := 39) (same := false) at_27 rfl rfl rfl (decide_eq_false fun q => (Ne.symm (Fld.ne F_PC_ordinal F_U_ordinal (own_ine (by decide)))) (Value.ref.inj q)) (by decide) (by decide) ?_
      refine g_aloadN C (pc' := 40) at_39 rfl rfl rfl ?_
      refine g_callS C (pc' := 43) (k' := 0) (n' := 0) (argsL := [(.ref s_U)]) (rest := []) (wd hw 28 rfl) (wd hw 29 rfl) (wd hw 2 rfl) (wd hw 30 rfl) (by decide) at_40 pd_1 rfl rfl rfl (isA_U l Z a0 hw n0 h O s_PC s_OA s_O s_UA s_U H) (Nat.le_of_ble_eq_true rfl) (Nat.le_of_ble_eq_true rfl) (Nat.le_of_ble_eq_true rfl) (Nat.le_of_ble_eq_true rfl) rfl rfl rfl (fun v158 h157 q159 => ?_)
      obtain ⟨rfl, eh157⟩ := q159
      subst h157
      show G w _ h 0 0 43 #[.val (.int p0), .val (.int p1), .val (.ref s_UA), .val (.ref s_U), .unset] [(.int (0 : Int32))]
      refine g_ifY C (pc' := 61) at_43 rfl (by decide) (by decide) rfl ?_
      refine g_iconst C (pc' := 62) (v := (0 : Int32)) at_61 (by decide) rfl ?_
      refine g_istore C (pc' := 64) (Ls' := #[.val (.int p0), .val (.int p1), .val (.ref s_UA), .val (.ref s_U), .val (.int (0 : Int32))]) at_62 rfl rfl rfl ?_
      refine g_aloadN C (pc' := 65) at_64 rfl rfl rfl ?_
      refine g_aloadN C (pc' := 66) at_65 rfl rfl rfl ?_
      refine g_virtual C (pc' := 69) (k' := 0) (n' := 0) (argsL := [(.ref s_U)]) (rest := []) (wd hw 10 rfl) (wd hw 11 rfl) (nfSel (wd hw 13 rfl)) (wd hw 13 rfl) (wd hw 12 rfl) (wd hw 6 rfl) (wd hw 14 rfl) (by decide) at_66 pd_1 rfl rfl rfl (E_UA.ext O.2) (may_UA_U l Z a0 hw n0 h O s_PC s_OA s_O s_UA s_U H) (Nat.le_of_ble_eq_true rfl) (Nat.le_of_ble_eq_true rfl) (Nat.le_of_ble_eq_true rfl) (Nat.le_of_ble_eq_true rfl) rfl rfl rfl (fun v161 h160 q162 => ?_)
      obtain ⟨rfl, eh160⟩ := q162
      subst h160
      show G w _ h 0 0 69 #[.val (.int p0), .val (.int p1), .val (.ref s_UA), .val (.ref s_U), .val (.int (0 : Int32))] [(.int (0 : Int32))]
      refine g_iload C (pc' := 71) at_69 rfl rfl ?_
      refine g_icN C (pc' := 74) at_71 rfl (by decide) rfl ?_
      refine g_iconst C (pc' := 75) (v := (1 : Int32)) at_74 (by decide) rfl ?_
      refine g_goto C (pc' := 79) at_75 (by decide) rfl ?_
      exact g_zreturn C at_79 rfl rfl (Nat.le_of_ble_eq_true rfl) (Nat.le_of_ble_eq_true rfl) (rfl)
    · refine g_iloadN C (pc' := 1) at_0 rfl rfl ?_
      refine g_callS C (pc' := 4) (k' := 0) (n' := 0) (argsL := [(.int p0)]) (rest := []) (wd hw 0 rfl) (wd hw 1 rfl) (wd hw 2 rfl) (wd hw 3 rfl) (by decide) at_1 pd_0 rfl rfl rfl (kind_UA l Z a0 hw n0 h O s_PC s_OA s_O s_UA s_U H p0 e0) (Nat.le_of_ble_eq_true rfl) (Nat.le_of_ble_eq_true rfl) (Nat.le_of_ble_eq_true rfl) (Nat.le_of_ble_eq_true rfl) rfl rfl rfl (fun v164 h163 q165 => ?_)
      obtain ⟨rfl, eh163⟩ := q165
      subst h163
      show G w _ h 0 0 4 #[.val (.int p0), .val (.int p1), .unset, .unset, .unset] [(.ref s_UA)]
      refine g_astoreN C (pc' := 5) (Ls' := #[.val (.int p0), .val (.int p1), .val (.ref s_UA), .unset, .unset]) at_4 rfl rfl rfl rfl ?_
      refine g_iloadN C (pc' := 6) at_5 rfl rfl ?_
      refine g_callS C (pc' := 9) (k' := 0) (n' := 0) (argsL := [(.int p1)]) (rest := []) (wd hw 0 rfl) (wd hw 1 rfl) (wd hw 2 rfl) (wd hw 3 rfl) (by decide) at_6 pd_0 rfl rfl rfl (kind_OA l Z a0 hw n0 h O s_PC s_OA s_O s_UA s_U H p1 e1) (Nat.le_of_ble_eq_true rfl) (Nat.le_of_ble_eq_true rfl) (Nat.le_of_ble_eq_true rfl) (Nat.le_of_ble_eq_true rfl) rfl rfl rfl (fun v167 h166 q168 => ?_)
      obtain ⟨rfl, eh166⟩ := q168
      subst h166
      show G w _ h 0 0 9 #[.val (.int p0), .val (.int p1), .val (.ref s_UA), .unset, .unset] [(.ref s_OA)]
      refine g_astoreN C (pc' := 10) (Ls' := #[.val (.int p0), .val (.int p1), .val (.ref s_UA), .val (.ref s_OA), .unset]) at_9 rfl rfl rfl rfl ?_
      refine g_aloadN C (pc' := 11) at_10 rfl rfl rfl ?_
      refine g_getS C (pc' := 14) (wd hw 5 rfl) Via.refl at_11 (S_PC.ext O.2) rfl ?_
      refine g_acmp C (pc' := 23) (same := false) at_14 rfl rfl rfl (decide_eq_false fun q => (Ne.symm (Fld.ne F_PC_ordinal F_UA_ordinal (own_ine (by decide)))) (Value.ref.inj q)) (by decide) (by decide) ?_
      refine g_aloadN C (pc' := 24) at_23 rfl rfl rfl ?_
      refine g_getS C (pc' := 27) (wd hw 5 rfl) Via.refl at_24 (S_PC.ext O.2) rfl ?_
      refine g_acmp C (pc' := 39) (same := false) at_27 rfl rfl rfl (decide_eq_false fun q => (Ne.symm (Fld.ne F_PC_ordinal F_OA_ordinal (own_ine (by decide)))) (Value.ref.inj q)) (by decide) (by decide) ?_
      refine g_aloadN C (pc' := 40) at_39 rfl rfl rfl ?_
      refine g_callS C (pc' := 43) (k' := 0) (n' := 0) (argsL := [(.ref s_OA)]) (rest := []) (wd hw 28 rfl) (wd hw 29 rfl) (wd hw 2 rfl) (wd hw 30 rfl) (by decide) at_40 pd_1 rfl rfl rfl (isA_OA l Z a0 hw n0 h O s_PC s_OA s_O s_UA s_U H) (Nat.le_of_ble_eq_true rfl) (Nat.le_of_ble_eq_true rfl) (Nat.le_of_ble_eq_true rfl) (Nat.le_of_ble_eq_true rfl) rfl rfl rfl (fun v170 h169 q171 => ?_)
      obtain ⟨rfl, eh169⟩ := q171
      subst h169
      show G w _ h 0 0 43 #[.val (.int p0), .val (.int p1), .val (.ref s_UA), .val (.ref s_OA), .unset] [(.int (1 : Int32))]
      refine g_ifN C (pc' := 46) at_43 rfl (by decide) rfl ?_
      refine g_aloadN C (pc' := 47) at_46 rfl rfl rfl ?_
      refine g_callS C (pc' := 50) (k' := 0) (n' := 0) (argsL := [(.ref s_OA)]) (rest := []) (wd hw 31 rfl) (wd hw 32 rfl) (wd hw 2 rfl) (wd hw 33 rfl) (by decide) at_47 pd_3 rfl rfl rfl (side_OA l Z a0 hw n0 h O s_PC s_OA s_O s_UA s_U H) (Nat.le_of_ble_eq_true rfl) (Nat.le_of_ble_eq_true rfl) (Nat.le_of_ble_eq_true rfl) (Nat.le_of_ble_eq_true rfl) rfl rfl rfl (fun v173 h172 q174 => ?_)
      obtain ⟨rfl, eh172⟩ := q174
      subst h172
      show G w _ h 0 0 50 #[.val (.int p0), .val (.int p1), .val (.ref s_UA), .val (.ref s_OA), .unset] [(.int (2 : Int32))]
      refine g_aloadN C (pc' := 51) at_50 rfl rfl rfl ?_
      refine g_callS C (pc' := 54) (k' := 0) (n' := 0) (argsL := [(.ref s_UA)]) (rest := [(.int (2 : Int32))]) (wd hw 31 rfl) (wd hw 32 rfl) (wd hw 2 rfl) (wd hw 33 rfl) (by decide) at_51 pd_3 rfl rfl rfl (side_UA l Z a0 hw n0 h O s_PC s_OA s_O s_UA s_U H) (Nat.le_of_ble_eq_true rfl) (Nat.le_of_ble_eq_true rfl) (Nat.le_of_ble_eq_true rfl) (Nat.le_of_ble_eq_true rfl) rfl rfl rfl (fun v176 h175 q177 => ?_)
      obtain ⟨rfl, eh175⟩ := q177
      subst h175
      show G w _ h 0 0 54 #[.val (.int p0), .val (.int p1), .val (.ref s_UA), .val (.ref s_OA), .unset] [(.int (1 : Int32)), (.int (2 : Int32))]
      refine g_icY C (pc' := 61) at_54 rfl (by decide) (by decide) rfl ?_
      refine g_iconst C (pc' := 62) (v := (0 : Int32)) at_61 (by decide) rfl ?_
      refine g_istore C (pc' := 64) (Ls' := #[.val (.int p0), .val (.int p1), .val (.ref s_UA), .val (.ref s_OA), .val (.int (0 : Int32))]) at_62 rfl rfl rfl ?_
      refine g_aloadN C (pc' := 65) at_64 rfl rfl rfl ?_
      refine g_aloadN C (pc' := 66) at_65 rfl rfl rfl ?_
      refine g_virtual C (pc' := 69) (k' := 0) (n' := 0) (argsL := [(.ref s_OA)]) (rest := []) (wd hw 10 rfl) (wd hw 11 rfl) (nfSel (wd hw 13 rfl)) (wd hw 13 rfl) (wd hw 12 rfl) (wd hw 6 rfl) (wd hw 14 rfl) (by decide) at_66 pd_1 rfl rfl rfl (E_UA.ext O.2) (may_UA_OA l Z a0 hw n0 h O s_PC s_OA s_O s_UA s_U H) (Nat.le_of_ble_eq_true rfl) (Nat.le_of_ble_eq_true rfl) (Nat.le_of_ble_eq_true rfl) (Nat.le_of_ble_eq_true rfl) rfl rfl rfl (fun v179 h178 q180 => ?_)
      obtain ⟨rfl, eh178⟩ := q180
      subst h178
      show G w _ h 0 0 69 #[.val (.int p0), .val (.int p1), .val (.ref s_UA), .val (.ref s_OA), .val (.int (0 : Int32))] [(.int (0 : Int32))]
      refine g_iload C (pc' := 71) at_69 rfl rfl ?_
      refine g_icN C (pc' := 74) at_71 rfl (by decide) rfl ?_
      refine g_iconst C (pc' := 75) (v := (1 : Int32)) at_74 (by decide) rfl ?_
      refine g_goto C (pc' := 79) at_75 (by decide) rfl ?_
      exact g_zreturn C at_79 rfl rfl (Nat.le_of_ble_eq_true rfl) (Nat.le_of_ble_eq_true rfl) (rfl)
    · refine g_iloadN C (pc' := 1) at_0 rfl rfl ?_
      refine g_callS C (pc' := 4) (k' := 0) (n' := 0) (argsL := [(.int p0)]) (rest := []) (wd hw 0 rfl) (wd hw 1 rfl) (wd hw 2 rfl) (wd hw 3 rfl) (by decide) at_1 pd_0 rfl rfl rfl (kind_UA l Z a0 hw n0 h O s_PC s_OA s_O s_UA s_U H p0 e0) (Nat.le_of_ble_eq_true rfl) (Nat.le_of_ble_eq_true rfl) (Nat.le_of_ble_eq_true rfl) (Nat.le_of_ble_eq_true rfl) rfl rfl rfl (fun v182 h181 q183 => ?_)
      obtain ⟨rfl, eh181⟩ := q183
      subst h181
      show G w _ h 0 0 4 #[.val (.int p0), .val (.int p1), .unset, .unset, .unset] [(.ref s_UA)]
      refine g_astoreN C (pc' := 5) (Ls' := #[.val (.int p0), .val (.int p1), .val (.ref s_UA), .unset, .unset]) at_4 rfl rfl rfl rfl ?_
      refine g_iloadN C (pc' := 6) at_5 rfl rfl ?_
      refine g_callS C (pc' := 9) (k' := 0) (n' := 0) (argsL := [(.int p1)]) (rest := []) (wd hw 0 rfl) (wd hw 1 rfl) (wd hw 2 rfl) (wd hw 3 rfl) (by decide) at_6 pd_0 rfl rfl rfl (kind_O l Z a0 hw n0 h O s_PC s_OA s_O s_UA s_U H p1 e1) (Nat.le_of_ble_eq_true rfl) (Nat.le_of_ble_eq_true rfl) (Nat.le_of_ble_eq_true rfl) (Nat.le_of_ble_eq_true rfl) rfl rfl rfl (fun v185 h184 q186 => ?_)
      obtain ⟨rfl, eh184⟩ := q186
      subst h184
      show G w _ h 0 0 9 #[.val (.int p0), .val (.int p1), .val (.ref s_UA), .unset, .unset] [(.ref s_O)]
      refine g_astoreN C (pc' := 10) (Ls' := #[.val (.int p0), .val (.int p1), .val (.ref s_UA), .val (.ref s_O), .unset]) at_9 rfl rfl rfl rfl ?_
      refine g_aloadN C (pc' := 11) at_10 rfl rfl rfl ?_
      refine g_getS C (pc' := 14) (wd hw 5 rfl) Via.refl at_11 (S_PC.ext O.2) rfl ?_
      refine g_acmp C (pc' := 23) (same := false) at_14 rfl rfl rfl (decide_eq_false fun q => (Ne.symm (Fld.ne F_PC_ordinal F_UA_ordinal (own_ine (by decide)))) (Value.ref.inj q)) (by decide) (by decide) ?_
      refine g_aloadN C (pc' := 24) at_23 rfl rfl rfl ?_
      refine g_getS C (pc' := 27) (wd hw 5 rfl) Via.refl at_24 (S_PC.ext O.2) rfl ?_
      refine g_acmp C (pc' := 39) (same := false) at_27 rfl rfl rfl (decide_eq_false fun q => (Ne.symm (Fld.ne F_PC_ordinal F_O_ordinal (own_ine (by decide)))) (Value.ref.inj q)) (by decide) (by decide) ?_
      refine g_aloadN C (pc' := 40) at_39 rfl rfl rfl ?_
      refine g_callS C (pc' := 43) (k' := 0) (n' := 0) (argsL := [(.ref s_O)]) (rest := []) (wd hw 28 rfl) (wd hw 29 rfl) (wd hw 2 rfl) (wd hw 30 rfl) (by decide) at_40 pd_1 rfl rfl rfl (isA_O l Z a0 hw n0 h O s_PC s_OA s_O s_UA s_U H) (Nat.le_of_ble_eq_true rfl) (Nat.le_of_ble_eq_true rfl) (Nat.le_of_ble_eq_true rfl) (Nat.le_of_ble_eq_true rfl) rfl rfl rfl (fun v188 h187 q189 => ?_)
      obtain ⟨rfl, eh187⟩ := q189
      subst h187
      show G w _ h 0 0 43 #[.val (.int p0), .val (.int p1), .val (.ref s_UA), .val (.ref s_O), .unset] [(.int (0 : Int32))]
      refine g_ifY C (pc' := 61) at_43 rfl (by decide) (by decide) rfl ?_
      refine g_iconst C (pc' := 62) (v := (0 : Int32)) at_61 (by decide) rfl ?_
      refine g_istore C (pc' := 64) (Ls' := #[.val (.int p0), .val (.int p1), .val (.ref s_UA), .val (.ref s_O), .val (.int (0 : Int32))]) at_62 rfl rfl rfl ?_
      refine g_aloadN C (pc' := 65) at_64 rfl rfl rfl ?_
      refine g_aloadN C (pc' := 66) at_65 rfl rfl rfl ?_
      refine g_virtual C (pc' := 69) (k' := 0) (n' := 0) (argsL := [(.ref s_O)]) (rest := []) (wd hw 10 rfl) (wd hw 11 rfl) (nfSel (wd hw 13 rfl)) (wd hw 13 rfl) (wd hw 12 rfl) (wd hw 6 rfl) (wd hw 14 rfl) (by decide) at_66 pd_1 rfl rfl rfl (E_UA.ext O.2) (may_UA_O l Z a0 hw n0 h O s_PC s_OA s_O s_UA s_U H) (Nat.le_of_ble_eq_true rfl) (Nat.le_of_ble_eq_true rfl) (Nat.le_of_ble_eq_true rfl) (Nat.le_of_ble_eq_true rfl) rfl rfl rfl (fun v191 h190 q192 => ?_)
      obtain ⟨rfl, eh190⟩ := q192
      subst h190
      show G w _ h 0 0 69 #[.val (.int p0), .val (.int p1), .val (.ref s_UA), .val (.ref s_O), .val (.int (0 : Int32))] [(.int (0 : Int32))]
      refine g_iload C (pc' := 71) at_69 rfl rfl ?_
      refine g_icN C (pc' := 74) at_71 rfl (by decide) rfl ?_
      refine g_iconst C (pc' := 75) (v := (1 : Int32)) at_74 (by decide) rfl ?_
      refine g_goto C (pc' := 79) at_75 (by decide) rfl ?_
      exact g_zreturn C at_79 rfl rfl (Nat.le_of_ble_eq_true rfl) (Nat.le_of_ble_eq_true rfl) (rfl)
  · rcases own_mod5 p1 with e1 | e1 | e1 | e1 | e1
    · refine g_iloadN C (pc' := 1) at_0 rfl rfl ?_
      refine g_callS C (pc' := 4) (k' := 0) (n' := 0) (argsL := [(.int p0)]) (rest := []) (wd hw 0 rfl) (wd hw 1 rfl) (wd hw 2 rfl) (wd hw 3 rfl) (by decide) at_1 pd_0 rfl rfl rfl (kind_U l Z a0 hw n0 h O s_PC s_OA s_O s_UA s_U H p0 e0) (Nat.le_of_ble_eq_true rfl) (Nat.le_of_ble_eq_true rfl) (Nat.le_of_ble_eq_true rfl) (Nat.le_of_ble_eq_true rfl) rfl rfl rfl (fun v194 h193 q195 => ?_)
      obtain ⟨rfl, eh193⟩ := q195
      subst h193
      show G w _ h 0 0 4 #[.val (.int p0), .val (.int p1), .unset, .unset, .unset] [(.ref s_U)]
      refine g_astoreN C (pc' := 5) (Ls' := #[.val (.int p0), .val (.int p1), .val (.ref s_U), .unset, .unset]) at_4 rfl rfl rfl rfl ?_
      refine g_iloadN C (pc' := 6) at_5 rfl rfl ?_
      refine g_callS C (pc' := 9) (k' := 0) (n' := 0) (argsL := [(.int p1)]) (rest := []) (wd hw 0 rfl) (wd hw 1 rfl) (wd hw 2 rfl) (wd hw 3 rfl) (by decide) at_6 pd_0 rfl rfl rfl (kind_PC l Z a0 hw n0 h O s_PC s_OA s_O s_UA s_U H p1 e1) (Nat.le_of_ble_eq_true rfl) (Nat.le_of_ble_eq_true rfl) (Nat.le_of_ble_eq_true rfl) (Nat.le_of_ble_eq_true rfl) rfl rfl rfl (fun v197 h196 q198 => ?_)
      obtain ⟨rfl, eh196⟩ := q198
      subst h196
      show G w _ h 0 0 9 #[.val (.int p0), .val (.int p1), .val (.ref s_U), .unset, .unset] [(.ref s_PC)]
      refine g_astoreN C (pc' := 10) (Ls' := #[.val (.int p0), .val (.int p1), .val (.ref s_U), .val (.ref s_PC), .unset]) at_9 rfl rfl rfl rfl ?_
      refine g_aloadN C (pc' := 11) at_10 rfl rfl rfl ?_
      refine g_getS C (pc' := 14) (wd hw 5 rfl) Via.refl at_11 (S_PC.ext O.2) rfl ?_
      refine g_acmp C (pc' := 23) (same := false) at_14 rfl rfl rfl (decide_eq_false fun q => (Ne.symm (Fld.ne F_PC_ordinal F_U_ordinal (own_ine (by decide)))) (Value.ref.inj q)) (by decide) (by decide) ?_
      refine g_aloadN C (pc' := 24) at_23 rfl rfl rfl ?_
      refine g_getS C (pc' := 27) (wd hw 5 rfl) Via.refl at_24 (S_PC.ext O.2) rfl ?_
      refine g_acmp C (pc' := 30) (same := true) at_27 rfl rfl rfl (decide_eq_true rfl) (by decide) (by decide) ?_
      refine g_aloadN C (pc' := 31) at_30 rfl rfl rfl ?_
      refine g_callS C (pc' := 34) (k' := 0) (n' := 0) (argsL := [(.ref s_U)]) (rest := []) (wd hw 28 rfl) (wd hw 29 rfl) (wd hw 2 rfl) (wd hw 30 rfl) (by decide) at_31 pd_1 rfl rfl rfl (isA_U l Z a0 hw n0 h O s_PC s_OA s_O s_UA s_U H) (Nat.le_of_ble_eq_true rfl) (Nat.le_of_ble_eq_true rfl) (Nat.le_of_ble_eq_true rfl) (Nat.le_of_ble_eq_true rfl) rfl rfl rfl (fun v200 h199 q201 => ?_)
      obtain ⟨rfl, eh199⟩ := q201
      subst h199
      show G w _ h 0 0 34 #[.val (.int p0), .val (.int p1), .val (.ref s_U), .val (.ref s_PC), .unset] [(.int (0 : Int32))]
      refine g_istore C (pc' := 36) (Ls' := #[.val (.int p0), .val (.int p1), .val (.ref s_U), .val (.ref s_PC), .val (.int (0 : Int32))]) at_34 rfl rfl rfl ?_
      refine g_goto C (pc' := 64) at_36 (by decide) rfl ?_
      refine g_aloadN C (pc' := 65) at_64 rfl rfl rfl ?_
      refine g_aloadN C (pc' := 66) at_65 rfl rfl rfl ?_
      refine g_virtual C (pc' := 69) (k' := 0) (n' := 0) (argsL := [(.ref s_PC)]) (rest := []) (wd hw 10 rfl) (wd hw 11 rfl) (nfSel (wd hw 13 rfl)) (wd hw 13 rfl) (wd hw 12 rfl) (wd hw 6 rfl) (wd hw 14 rfl) (by decide) at_66 pd_1 rfl rfl rfl (E_U.ext O.2) (may_U_PC l Z a0 hw n0 h O s_PC s_OA s_O s_UA s_U H) (Nat.le_of_ble_eq_true rfl) (Nat.le_of_ble_eq_true rfl) (Nat.le_of_ble_eq_true rfl) (Nat.le_of_ble_eq_true rfl) rfl rfl rfl (fun v203 h202 q204 => ?_)
      obtain ⟨rfl, eh202⟩ := q204
      subst h202
      show G w _ h 0 0 69 #[.val (.int p0), .val (.int p1), .val (.ref s_U), .val (.ref s_PC), .val (.int (0 : Int32))] [(.int (0 : Int32))]
      refine g_iload C (pc' := 71) at_69 rfl rfl ?_
      refine g_icN C (pc' := 74) at_71 rfl (by decide) rfl ?_
      refine g_iconst C (pc' := 75) (v := (1 : Int32)) at_74 (by decide) rfl ?_
      refine g_goto C (pc' := 79) at_75 (by decide) rfl ?_
      exact g_zreturn C at_79 rfl rfl (Nat.le_of_ble_eq_true rfl) (Nat.le_of_ble_eq_true rfl) (rfl)
    · refine g_iloadN C (pc' := 1) at_0 rfl rfl ?_
      refine g_callS C (pc' := 4) (k' := 0) (n' := 0) (argsL := [(.int p0)]) (rest := []) (wd hw 0 rfl) (wd hw 1 rfl) (wd hw 2 rfl) (wd hw 3 rfl) (by decide) at_1 pd_0 rfl rfl rfl (kind_U l Z a0 hw n0 h O s_PC s_OA s_O s_UA s_U H p0 e0) (Nat.le_of_ble_eq_true rfl) (Nat.le_of_ble_eq_true rfl) (Nat.le_of_ble_eq_true rfl) (Nat.le_of_ble_eq_true rfl) rfl rfl rfl (fun v206 h205 q207 => ?_)
      obtain ⟨rfl, eh205⟩ := q207
      subst h205
      show G w _ h 0 0 4 #[.val (.int p0), .val (.int p1), .unset, .unset, .unset] [(.ref s_U)]
      refine g_astoreN C (pc' := 5) (Ls' := #[.val (.int p0), .val (.int p1), .val (.ref s_U), .unset, .unset]) at_4 rfl rfl rfl rfl ?_
      refine g_iloadN C (pc' := 6) at_5 rfl rfl ?_
      refine g_callS C (pc' := 9) (k' := 0) (n' := 0) (argsL := [(.int p1)]) (rest := []) (wd hw 0 rfl) (wd hw 1 rfl) (wd hw 2 rfl) (wd hw 3 rfl) (by decide) at_6 pd_0 rfl rfl rfl (kind_UA l Z a0 hw n0 h O s_PC s_OA s_O s_UA s_U H p1 e1) (Nat.le_of_ble_eq_true rfl) (Nat.le_of_ble_eq_true rfl) (Nat.le_of_ble_eq_true rfl) (Nat.le_of_ble_eq_true rfl) rfl rfl rfl (fun v209 h208 q210 => ?_)
      obtain ⟨rfl, eh208⟩ := q210
      subst h208
      show G w _ h 0 0 9 #[.val (.int p0), .val (.int p1), .val (.ref s_U), .unset, .unset] [(.ref s_UA)]
      refine g_astoreN C (pc' := 10) (Ls' := #[.val (.int p0), .val (.int p1), .val (.ref s_U), .val (.ref s_UA), .unset]) at_9 rfl rfl rfl rfl ?_
      refine g_aloadN C (pc' := 11) at_10 rfl rfl rfl ?_
      refine g_getS C (pc' := 14) (wd hw 5 rfl) Via.refl at_11 (S_PC.ext O.2) rfl ?_
      refine g_acmp C (pc' := 23) (same := false) at_14 rfl rfl rfl (decide_eq_false fun q => (Ne.symm (Fld.ne F_PC_ordinal F_U_ordinal (own_ine (by decide)))) (Value.ref.inj q)) (by decide) (by decide) ?_
      refine g_aloadN C (pc' := 24) at_23 rfl rfl rfl ?_
      refine g_getS C (pc' := 27) (wd hw 5 rfl) Via.refl at_24 (S_PC.ext O.2) rfl ?_
      refine g_acmp C (pc' := 39) (same := false) at_27 rfl rfl rfl (decide_eq_false fun q => (Ne.symm (Fld.ne F_PC_ordinal F_UA_ordinal (own_ine (by decide)))) (Value.ref.inj q)) (by decide) (by decide) ?_
      refine g_aloadN C (pc' := 40) at_39 rfl rfl rfl ?_
      refine g_callS C (pc' := 43) (k' := 0) (n' := 0) (argsL := [(.ref s_UA)]) (rest := []) (wd hw 28 rfl) (wd hw 29 rfl) (wd hw 2 rfl) (wd hw 30 rfl) (by decide) at_40 pd_1 rfl rfl rfl (isA_UA l Z a0 hw n0 h O s_PC s_OA s_O s_UA s_U H) (Nat.le_of_ble_eq_true rfl) (Nat.le_of_ble_eq_true rfl) (Nat.le_of_ble_eq_true rfl) (Nat.le_of_ble_eq_true rfl) rfl rfl rfl (fun v212 h211 q213 => ?_)
      obtain ⟨rfl, eh211⟩ := q213
      subst h211
      show G w _ h 0 0 43 #[.val (.int p0), .val (.int p1), .val (.ref s_U), .val (.ref s_UA), .unset] [(.int (1 : Int32))]
      refine g_ifN C (pc' := 46) at_43 rfl (by decide) rfl ?_
      refine g_aloadN C (pc' := 47) at_46 rfl rfl rfl ?_
      refine g_callS C (pc' := 50) (k' := 0) (n' := 0) (argsL := [(.ref s_UA)]) (rest := []) (wd hw 31 rfl) (wd hw 32 rfl) (wd hw 2 rfl) (wd hw 33 rfl) (by decide) at_47 pd_3 rfl rfl rfl (side_UA l Z a0 hw n0 h O s_PC s_OA s_O s_UA s_U H) (Nat.le_of_ble_eq_true rfl) (Nat.le_of_ble_eq_true rfl) (Nat.le_of_ble_eq_true rfl) (Nat.le_of_ble_eq_true rfl) rfl rfl rfl (fun v215 h214 q216 => ?_)
      obtain ⟨rfl, eh214⟩ := q216
      subst h214
      show G w _ h 0 0 50 #[.val (.int p0), .val (.int p1), .val (.ref s_U), .val (.ref s_UA), .unset] [(.int (1 : Int32))]
      refine g_aloadN C (pc' := 51) at_50 rfl rfl rfl ?_
      refine g_callS C (pc' := 54) (k' := 0) (n' := 0) (argsL := [(.ref s_U)]) (rest := [(.int (1 : Int32))]) (wd hw 31 rfl) (wd hw 32 rfl) (wd hw 2 rfl) (wd hw 33 rfl) (by decide) at_51 pd_3 rfl rfl rfl (side_U l Z a0 hw n0 h O s_PC s_OA s_O s_UA s_U H) (Nat.le_of_ble_eq_true rfl) (Nat.le_of_ble_eq_true rfl) (Nat.le_of_ble_eq_true rfl) (Nat.le_of_ble_eq_true rfl) rfl rfl rfl (fun v218 h217 q219 => ?_)
      obtain ⟨rfl, eh217⟩ := q219
      subst h217
      show G w _ h 0 0 54 #[.val (.int p0), .val (.int p1), .val (.ref s_U), .val (.ref s_UA), .unset] [(.int (1 : Int32)), (.int (1 : Int32))]
      refine g_icN C (pc' := 57) at_54 rfl (by decide) rfl ?_
      refine g_iconst C (pc' := 58) (v := (1 : Int32)) at_57 (by decide) rfl ?_
      refine g_goto C (pc' := 62) at_58 (by decide) rfl ?_
      refine g_istore C (pc' := 64) (Ls' := #[.val (.int p0), .val (.int p1), .val (.ref s_U), .val (.ref s_UA), .val (.int (1 : Int32))]) at_62 rfl rfl rfl ?_
      refine g_aloadN C (pc' := 65) at_64 rfl rfl rfl ?_
      refine g_aloadN C (pc' := 66) at_65 rfl rfl rfl ?_
      refine g_virtual C (pc' := 69) (k' := 0) (n' := 0) (argsL := [(.ref s_UA)]) (rest := []) (wd hw 10 rfl) (wd hw 11 rfl) (nfSel (wd hw 13 rfl)) (wd hw 13 rfl) (wd hw 12 rfl) (wd hw 6 rfl) (wd hw 14 rfl) (by decide) at_66 pd_1 rfl rfl rfl (E_U.ext O.2) (may_U_UA l Z a0 hw n0 h O s_PC s_OA s_O s_UA s_U H) (Nat.le_of_ble_eq_true rfl) (Nat.le_of_ble_eq_true rfl) (Nat.le_of_ble_eq_true rfl) (Nat.le_of_ble_eq_true rfl) rfl rfl rfl (fun v221 h220 q222 => ?_)
      obtain ⟨rfl, eh220⟩ := q222
      subst h220
      show G w _ h 0 0 69 #[.val (.int p0), .val (.int p1), .val (.ref s_U), .val (.ref s_UA), .val (.int (1 : Int32))] [(.int (1 : Int32))]
      refine g_iload C (pc' := 71) at_69 rfl rfl ?_
      refine g_icN C (pc' := 74) at_71 rfl (by decide) rfl ?_
      refine g_iconst C (pc' := 75) (v := (1 : Int32)) at_74 (by decide) rfl ?_
      refine g_goto C (pc' := 79) at_75 (by decide) rfl ?_
      exact g_zreturn C at_79 rfl rfl (Nat.le_of_ble_eq_true rfl) (Nat.le_of_ble_eq_true rfl) (rfl)
    · refine g_iloadN C (pc' := 1) at_0 rfl rfl ?_
      refine g_callS C (pc' := 4) (k' := 0) (n' := 0) (argsL := [(.int p0)]) (rest := []) (wd hw 0 rfl) (wd hw 1 rfl) (wd hw 2 rfl) (wd hw 3 rfl) (by decide) at_1 pd_0 rfl rfl rfl (kind_U l Z a0 hw n0 h O s_PC s_OA s_O s_UA s_U H p0 e0) (Nat.le_of_ble_eq_true rfl) (Nat.le_of_ble_eq_true rfl) (Nat.le_of_ble_eq_true rfl) (Nat.le_of_ble_eq_true rfl) rfl rfl rfl (fun v224 h223 q225 => ?_)
      obtain ⟨rfl, eh223⟩ := q225
      subst h223
      show G w _ h 0 0 4 #[.val (.int p0), .val (.int p1), .unset, .unset, .unset] [(.ref s_U)]
      refine g_astoreN C (pc' := 5) (Ls' := #[.val (.int p0), .val (.int p1), .val (.ref s_U), .unset, .unset]) at_4 rfl rfl rfl rfl ?_
      refine g_iloadN C (pc' := 6) at_5 rfl rfl ?_
      refine g_callS C (pc' := 9) (k' := 0) (n' := 0) (argsL := [(.int p1)]) (rest := []) (wd hw 0 rfl) (wd hw 1 rfl) (wd hw 2 rfl) (wd hw 3 rfl) (by decide) at_6 pd_0 rfl rfl rfl (kind_U l Z a0 hw n0 h O s_PC s_OA s_O s_UA s_U H p1 e1) (Nat.le_of_ble_eq_true rfl) (Nat.le_of_ble_eq_true rfl) (Nat.le_of_ble_eq_true rfl) (Nat.le_of_ble_eq_true rfl) rfl rfl rfl (fun v227 h226 q228 => ?_)
      obtain ⟨rfl, eh226⟩ := q228
      subst h226
      show G w _ h 0 0 9 #[.val (.int p0), .val (.int p1), .val (.ref s_U), .unset, .unset] [(.ref s_U)]
      refine g_astoreN C (pc' := 10) (Ls' := #[.val (.int p0), .val (.int p1), .val (.ref s_U), .val (.ref s_U), .unset]) at_9 rfl rfl rfl rfl ?_
      refine g_aloadN C (pc' := 11) at_10 rfl rfl rfl ?_
      refine g_getS C (pc' := 14) (wd hw 5 rfl) Via.refl at_11 (S_PC.ext O.2) rfl ?_
      refine g_acmp C (pc' := 23) (same := false) at_14 rfl rfl rfl (decide_eq_false fun q => (Ne.symm (Fld.ne F_PC_ordinal F_U_ordinal (own_ine (by decide)))) (Value.ref.inj q)) (by decide) (by decide) ?_
      refine g_aloadN C (pc' := 24) at_23 rfl rfl rfl ?_
      refine g_getS C (pc' := 27) (wd hw 5 rfl) Via.refl at_24 (S_PC.ext O.2) rfl ?_
      refine g_acmp C (pc' := 39) (same := false) at_27 rfl rfl rfl (decide_eq_false fun q => (Ne.symm (Fld.ne F_PC_ordinal F_U_ordinal (own_ine (by decide)))) (Value.ref.inj q)) (by decide) (by decide) ?_
      refine g_aloadN C (pc' := 40) at_39 rfl rfl rfl ?_
      refine g_callS C (pc' := 43) (k' := 0) (n' := 0) (argsL := [(.ref s_U)]) (rest := []) (wd hw 28 rfl) (wd hw 29 rfl) (wd hw 2 rfl) (wd hw 30 rfl) (by decide) at_40 pd_1 rfl rfl rfl (isA_U l Z a0 hw n0 h O s_PC s_OA s_O s_UA s_U H) (Nat.le_of_ble_eq_true rfl) (Nat.le_of_ble_eq_true rfl) (Nat.le_of_ble_eq_true rfl) (Nat.le_of_ble_eq_true rfl) rfl rfl rfl (fun v230 h229 q231 => ?_)
      obtain ⟨rfl, eh229⟩ := q231
      subst h229
      show G w _ h 0 0 43 #[.val (.int p0), .val (.int p1), .val (.ref s_U), .val (.ref s_U), .unset] [(.int (0 : Int32))]
      refine g_ifY C (pc' := 61) at_43 rfl (by decide) (by decide) rfl ?_
      refine g_iconst C (pc' := 62) (v := (0 : Int32)) at_61 (by decide) rfl ?_
      refine g_istore C (pc' := 64) (Ls' := #[.val (.int p0), .val (.int p1), .val (.ref s_U), .val (.ref s_U), .val (.int (0 : Int32))]) at_62 rfl rfl rfl ?_
      refine g_aloadN C (pc' := 65) at_64 rfl rfl rfl ?_
      refine g_aloadN C (pc' := 66) at_65 rfl rfl rfl ?_
      refine g_virtual C (pc' := 69) (k' := 0) (n' := 0) (argsL := [(.ref s_U)]) (rest := []) (wd hw 10 rfl) (wd hw 11 rfl) (nfSel (wd hw 13 rfl)) (wd hw 13 rfl) (wd hw 12 rfl) (wd hw 6 rfl) (wd hw 14 rfl) (by decide) at_66 pd_1 rfl rfl rfl (E_U.ext O.2) (may_U_U l Z a0 hw n0 h O s_PC s_OA s_O s_UA s_U H) (Nat.le_of_ble_eq_true rfl) (Nat.le_of_ble_eq_true rfl) (Nat.le_of_ble_eq_true rfl) (Nat.le_of_ble_eq_true rfl) rfl rfl rfl (fun v233 h232 q234 => ?_)
      obtain ⟨rfl, eh232⟩ := q234
      subst h232
      show G w _ h 0 0 69 #[.val (.int p0), .val (.int p1), .val (.ref s_U), .val (.ref s_U), .val (.int (0 : Int32))] [(.int (0 : Int32))]
      refine g_iload C (pc' := 71) at_69 rfl rfl ?_
      refine g_icN C (pc' := 74) at_71 rfl (by decide) rfl ?_
      refine g_iconst C (pc' := 75) (v := (1 : Int32)) at_74 (by decide) rfl ?_
      refine g_goto C (pc' := 79) at_75 (by decide) rfl ?_
      exact g_zreturn C at_79 rfl rfl (Nat.le_of_ble_eq_true rfl) (Nat.le_of_ble_eq_true rfl) (rfl)
    · refine g_iloadN C (pc' := 1) at_0 rfl rfl ?_
      refine g_callS C (pc' := 4) (k' := 0) (n' := 0) (argsL := [(.int p0)]) (rest := []) (wd hw 0 rfl) (wd hw 1 rfl) (wd hw 2 rfl) (wd hw 3 rfl) (by decide) at_1 pd_0 rfl rfl rfl (kind_U l Z a0 hw n0 h O s_PC s_OA s_O s_UA s_U H p0 e0) (Nat.le_of_ble_eq_true rfl) (Nat.le_of_ble_eq_true rfl) (Nat.le_of_ble_eq_true rfl) (Nat.le_of_ble_eq_true rfl) rfl rfl rfl (fun v236 h235 q237 => ?_)
      obtain ⟨rfl, eh235⟩ := q237
      subst h235
      show G w _ h 0 0 4 #[.val (.int p0), .val (.int p1), .unset, .unset, .unset] [(.ref s_U)]
      refine g_astoreN C (pc' := 5) (Ls' := #[.val (.int p0), .val (.int p1), .val (.ref s_U), .unset, .unset]) at_4 rfl rfl rfl rfl ?_
      refine g_iloadN C (pc' := 6) at_5 rfl rfl ?_
      refine g_callS C (pc' := 9) (k' := 0) (n' := 0) (argsL := [(.int p1)]) (rest := []) (wd hw 0 rfl) (wd hw 1 rfl) (wd hw 2 rfl) (wd hw 3 rfl) (by decide) at_6 pd_0 rfl rfl rfl (kind_OA l Z a0 hw n0 h O s_PC s_OA s_O s_UA s_U H p1 e1) (Nat.le_of_ble_eq_true rfl) (Nat.le_of_ble_eq_true rfl) (Nat.le_of_ble_eq_true rfl) (Nat.le_of_ble_eq_true rfl) rfl rfl rfl (fun v239 h238 q240 => ?_)
      obtain ⟨rfl, eh238⟩ := q240
      subst h238
      show G w _ h 0 0 9 #[.val (.int p0), .val (.int p1), .val (.ref s_U), .unset, .unset] [(.ref s_OA)]
      refine g_astoreN C (pc' := 10) (Ls' := #[.val (.int p0), .val (.int p1), .val (.ref s_U), .val (.ref s_OA), .unset]) at_9 rfl rfl rfl rfl ?_
      refine g_aloadN C (pc' := 11) at_10 rfl rfl rfl ?_
      refine g_getS C (pc' := 14) (wd hw 5 rfl) Via.refl at_11 (S_PC.ext O.2) rfl ?_
      refine g_acmp C (pc' := 23) (same := false) at_14 rfl rfl rfl (decide_eq_false fun q => (Ne.symm (Fld.ne F_PC_ordinal F_U_ordinal (own_ine (by decide)))) (Value.ref.inj q)) (by decide) (by decide) ?_
      refine g_aloadN C (pc' := 24) at_23 rfl rfl rfl ?_
      refine g_getS C (pc' := 27) (wd hw 5 rfl) Via.refl at_24 (S_PC.ext O.2) rfl ?_
      refine g_acmp C (pc' := 39) (same := false) at_27 rfl rfl rfl (decide_eq_false fun q => (Ne.symm (Fld.ne F_PC_ordinal F_OA_ordinal (own_ine (by decide)))) (Value.ref.inj q)) (by decide) (by decide) ?_
      refine g_aloadN C (pc' := 40) at_39 rfl rfl rfl ?_
      refine g_callS C (pc' := 43) (k' := 0) (n' := 0) (argsL := [(.ref s_OA)]) (rest := []) (wd hw 28 rfl) (wd hw 29 rfl) (wd hw 2 rfl) (wd hw 30 rfl) (by decide) at_40 pd_1 rfl rfl rfl (isA_OA l Z a0 hw n0 h O s_PC s_OA s_O s_UA s_U H) (Nat.le_of_ble_eq_true rfl) (Nat.le_of_ble_eq_true rfl) (Nat.le_of_ble_eq_true rfl) (Nat.le_of_ble_eq_true rfl) rfl rfl rfl (fun v242 h241 q243 => ?_)
      obtain ⟨rfl, eh241⟩ := q243
      subst h241
      show G w _ h 0 0 43 #[.val (.int p0), .val (.int p1), .val (.ref s_U), .val (.ref s_OA), .unset] [(.int (1 : Int32))]
      refine g_ifN C (pc' := 46) at_43 rfl (by decide) rfl ?_
      refine g_aloadN C (pc' := 47) at_46 rfl rfl rfl ?_
      refine g_callS C (pc' := 50) (k' := 0) (n' := 0) (argsL := [(.ref s_OA)]) (rest := []) (wd hw 31 rfl) (wd hw 32 rfl) (wd hw 2 rfl) (wd hw 33 rfl) (by decide) at_47 pd_3 rfl rfl rfl (side_OA l Z a0 hw n0 h O s_PC s_OA s_O s_UA s_U H) (Nat.le_of_ble_eq_true rfl) (Nat.le_of_ble_eq_true rfl) (Nat.le_of_ble_eq_true rfl) (Nat.le_of_ble_eq_true rfl) rfl rfl rfl (fun v245 h244 q246 => ?_)
      obtain ⟨rfl, eh244⟩ := q246
      subst h244
      show G w _ h 0 0 50 #[.val (.int p0), .val (.int p1), .val (.ref s_U), .val (.ref s_OA), .unset] [(.int (2 : Int32))]
      refine g_aloadN C (pc' := 51) at_50 rfl rfl rfl ?_
      refine g_callS C (pc' := 54) (k' := 0) (n' := 0) (argsL := [(.ref s_U)]) (rest := [(.int (2 : Int32))]) (wd hw 31 rfl) (wd hw 32 rfl) (wd hw 2 rfl) (wd hw 33 rfl) (by decide) at_51 pd_3 rfl rfl rfl (side_U l Z a0 hw n0 h O s_PC s_OA s_O s_UA s_U H) (Nat.le_of_ble_eq_true rfl) (Nat.le_of_ble_eq_true rfl) (Nat.le_of_ble_eq_true rfl) (Nat.le_of_ble_eq_true rfl) rfl rfl rfl (fun v248 h247 q249 => ?_)
      obtain ⟨rfl, eh247⟩ := q249
      subst h247
      show G w _ h 0 0 54 #[.val (.int p0), .val (.int p1), .val (.ref s_U), .val (.ref s_OA), .unset] [(.int (1 : Int32)), (.int (2 : Int32))]
      refine g_icY C (pc' := 61) at_54 rfl (by decide) (by decide) rfl ?_
      refine g_iconst C (pc' := 62) (v := (0 : Int32)) at_61 (by decide) rfl ?_
      refine g_istore C (pc' := 64) (Ls' := #[.val (.int p0), .val (.int p1), .val (.ref s_U), .val (.ref s_OA), .val (.int (0 : Int32))]) at_62 rfl rfl rfl ?_
      refine g_aloadN C (pc' := 65) at_64 rfl rfl rfl ?_
      refine g_aloadN C (pc' := 66) at_65 rfl rfl rfl ?_
      refine g_virtual C (pc' := 69) (k' := 0) (n' := 0) (argsL := [(.ref s_OA)]) (rest := []) (wd hw 10 rfl) (wd hw 11 rfl) (nfSel (wd hw 13 rfl)) (wd hw 13 rfl) (wd hw 12 rfl) (wd hw 6 rfl) (wd hw 14 rfl) (by decide) at_66 pd_1 rfl rfl rfl (E_U.ext O.2) (may_U_OA l Z a0 hw n0 h O s_PC s_OA s_O s_UA s_U H) (Nat.le_of_ble_eq_true rfl) (Nat.le_of_ble_eq_true rfl) (Nat.le_of_ble_eq_true rfl) (Nat.le_of_ble_eq_true rfl) rfl rfl rfl (fun v251 h250 q252 => ?_)
      obtain ⟨rfl, eh250⟩ := q252
      subst h250
      show G w _ h 0 0 69 #[.val (.int p0), .val (.int p1), .val (.ref s_U), .val (.ref s_OA), .val (.int (0 : Int32))] [(.int (0 : Int32))]
      refine g_iload C (pc' := 71) at_69 rfl rfl ?_
      refine g_icN C (pc' := 74) at_71 rfl (by decide) rfl ?_
      refine g_iconst C (pc' := 75) (v := (1 : Int32)) at_74 (by decide) rfl ?_
      refine g_goto C (pc' := 79) at_75 (by decide) rfl ?_
      exact g_zreturn C at_79 rfl rfl (Nat.le_of_ble_eq_true rfl) (Nat.le_of_ble_eq_true rfl) (rfl)
    · refine g_iloadN C (pc' := 1) at_0 rfl rfl ?_
      refine g_callS C (pc' := 4) (k' := 0) (n' := 0) (argsL := [(.int p0)]) (rest := []) (wd hw 0 rfl) (wd hw 1 rfl) (wd hw 2 rfl) (wd hw 3 rfl) (by decide) at_1 pd_0 rfl rfl rfl (kind_U l Z a0 hw n0 h O s_PC s_OA s_O s_UA s_U H p0 e0) (Nat.le_of_ble_eq_true rfl) (Nat.le_of_ble_eq_true rfl) (Nat.le_of_ble_eq_true rfl) (Nat.le_of_ble_eq_true rfl) rfl rfl rfl (fun v254 h253 q255 => ?_)
      obtain ⟨rfl, eh253⟩ := q255
      subst h253
      show G w _ h 0 0 4 #[.val (.int p0), .val (.int p1), .unset, .unset, .unset] [(.ref s_U)]
      refine g_astoreN C (pc' := 5) (Ls' := #[.val (.int p0), .val (.int p1), .val (.ref s_U), .unset, .unset]) at_4 rfl rfl rfl rfl ?_
      refine g_iloadN C (pc' := 6) at_5 rfl rfl ?_
      refine g_callS C (pc' := 9) (k' := 0) (n' := 0) (argsL := [(.int p1)]) (rest := []) (wd hw 0 rfl) (wd hw 1 rfl) (wd hw 2 rfl) (wd hw 3 rfl) (by decide) at_6 pd_0 rfl rfl rfl (kind_O l Z a0 hw n0 h O s_PC s_OA s_O s_UA s_U H p1 e1) (Nat.le_of_ble_eq_true rfl) (Nat.le_of_ble_eq_true rfl) (Nat.le_of_ble_eq_true rfl) (Nat.le_of_ble_eq_true rfl) rfl rfl rfl (fun v257 h256 q258 => ?_)
      obtain ⟨rfl, eh256⟩ := q258
      subst h256
      show G w _ h 0 0 9 #[.val (.int p0), .val (.int p1), .val (.ref s_U), .unset, .unset] [(.ref s_O)]
      refine g_astoreN C (pc' := 10) (Ls' := #[.val (.int p0), .val (.int p1), .val (.ref s_U), .val (.ref s_O), .unset]) at_9 rfl rfl rfl rfl ?_
      refine g_aloadN C (pc' := 11) at_10 rfl rfl rfl ?_
      refine g_getS C (pc' := 14) (wd hw 5 rfl) Via.refl at_11 (S_PC.ext O.2) rfl ?_
      refine g_acmp C (pc' := 23) (same := false) at_14 rfl rfl rfl (decide_eq_false fun q => (Ne.symm (Fld.ne F_PC_ordinal F_U_ordinal (own_ine (by decide)))) (Value.ref.inj q)) (by decide) (by decide) ?_
      refine g_aloadN C (pc' := 24) at_23 rfl rfl rfl ?_
      refine g_getS C (pc' := 27) (wd hw 5 rfl) Via.refl at_24 (S_PC.ext O.2) rfl ?_
      refine g_acmp C (pc' := 39) (same := false) at_27 rfl rfl rfl (decide_eq_false fun q => (Ne.symm (Fld.ne F_PC_ordinal F_O_ordinal (own_ine (by decide)))) (Value.ref.inj q)) (by decide) (by decide) ?_
      refine g_aloadN C (pc' := 40) at_39 rfl rfl rfl ?_
      refine g_callS C (pc' := 43) (k' := 0) (n' := 0) (argsL := [(.ref s_O)]) (rest := []) (wd hw 28 rfl) (wd hw 29 rfl) (wd hw 2 rfl) (wd hw 30 rfl) (by decide) at_40 pd_1 rfl rfl rfl (isA_O l Z a0 hw n0 h O s_PC s_OA s_O s_UA s_U H) (Nat.le_of_ble_eq_true rfl) (Nat.le_of_ble_eq_true rfl) (Nat.le_of_ble_eq_true rfl) (Nat.le_of_ble_eq_true rfl) rfl rfl rfl (fun v260 h259 q261 => ?_)
      obtain ⟨rfl, eh259⟩ := q261
      subst h259
      show G w _ h 0 0 43 #[.val (.int p0), .val (.int p1), .val (.ref s_U), .val (.ref s_O), .unset] [(.int (0 : Int32))]
      refine g_ifY C (pc' := 61) at_43 rfl (by decide) (by decide) rfl ?_
      refine g_iconst C (pc' := 62) (v := (0 : Int32)) at_61 (by decide) rfl ?_
      refine g_istore C (pc' := 64) (Ls' := #[.val (.int p0), .val (.int p1), .val (.ref s_U), .val (.ref s_O), .val (.int (0 : Int32))]) at_62 rfl rfl rfl ?_
      refine g_aloadN C (pc' := 65) at_64 rfl rfl rfl ?_
      refine g_aloadN C (pc' := 66) at_65 rfl rfl rfl ?_
      refine g_virtual C (pc' := 69) (k' := 0) (n' := 0) (argsL := [(.ref s_O)]) (rest := []) (wd hw 10 rfl) (wd hw 11 rfl) (nfSel (wd hw 13 rfl)) (wd hw 13 rfl) (wd hw 12 rfl) (wd hw 6 rfl) (wd hw 14 rfl) (by decide) at_66 pd_1 rfl rfl rfl (E_U.ext O.2) (may_U_O l Z a0 hw n0 h O s_PC s_OA s_O s_UA s_U H) (Nat.le_of_ble_eq_true rfl) (Nat.le_of_ble_eq_true rfl) (Nat.le_of_ble_eq_true rfl) (Nat.le_of_ble_eq_true rfl) rfl rfl rfl (fun v263 h262 q264 => ?_)
      obtain ⟨rfl, eh262⟩ := q264
      subst h262
      show G w _ h 0 0 69 #[.val (.int p0), .val (.int p1), .val (.ref s_U), .val (.ref s_O), .val (.int (0 : Int32))] [(.int (0 : Int32))]
      refine g_iload C (pc' := 71) at_69 rfl rfl ?_
      refine g_icN C (pc' := 74) at_71 rfl (by decide) rfl ?_
      refine g_iconst C (pc' := 75) (v := (1 : Int32)) at_74 (by decide) rfl ?_
      refine g_goto C (pc' := 79) at_75 (by decide) rfl ?_
      exact g_zreturn C at_79 rfl rfl (Nat.le_of_ble_eq_true rfl) (Nat.le_of_ble_eq_true rfl) (rfl)
  · rcases own_mod5 p1 with e1 | e1 | e1 | e1 | e1
    · refine g_iloadN C (pc' := 1) at_0 rfl rfl ?_
      refine g_callS C (pc' := 4) (k' := 0) (n' := 0) (argsL := [(.int p0)]) (rest := []) (wd hw 0 rfl) (wd hw 1 rfl) (wd hw 2 rfl) (wd hw 3 rfl) (by decide) at_1 pd_0 rfl rfl rfl (kind_OA l Z a0 hw n0 h O s_PC s_OA s_O s_UA s_U H p0 e0) (Nat.le_of_ble_eq_true rfl) (Nat.le_of_ble_eq_true rfl) (Nat.le_of_ble_eq_true rfl) (Nat.le_of_ble_eq_true rfl) rfl rfl rfl (fun v266 h265 q267 => ?_)
      obtain ⟨rfl, eh265⟩ := q267
      subst h265
      show G w _ h 0 0 4 #[.val (.int p0), .val (.int p1), .unset, .unset, .unset] [(.ref s_OA)]
      refine g_astoreN C (pc' := 5) (Ls' := #[.val (.int p0), .val (.int p1), .val (.ref s_OA), .unset, .unset]) at_4 rfl rfl rfl rfl ?_
      refine g_iloadN C (pc' := 6) at_5 rfl rfl ?_
      refine g_callS C (pc' := 9) (k' := 0) (n' := 0) (argsL := [(.int p1)]) (rest := []) (wd hw 0 rfl) (wd hw 1 rfl) (wd hw 2 rfl) (wd hw 3 rfl) (by decide) at_6 pd_0 rfl rfl rfl (kind_PC l Z a0 hw n0 h O s_PC s_OA s_O s_UA s_U H p1 e1) (Nat.le_of_ble_eq_true rfl) (Nat.le_of_ble_eq_true rfl) (Nat.le_of_ble_eq_true rfl) (Nat.le_of_ble_eq_true rfl) rfl rfl rfl (fun v269 h268 q270 => ?_)
      obtain ⟨rfl, eh268⟩ := q270
      subst h268
      show G w _ h 0 0 9 #[.val (.int p0), .val (.int p1), .val (.ref s_OA), .unset, .unset] [(.ref s_PC)]
      refine g_astoreN C (pc' := 10) (Ls' := #[.val (.int p0), .val (.int p1), .val (.ref s_OA), .val (.ref s_PC), .unset]) at_9 rfl rfl rfl rfl ?_
      refine g_aloadN C (pc' := 11) at_10 rfl rfl rfl ?_
      refine g_getS C (pc' := 14) (wd hw 5 rfl) Via.refl at_11 (S_PC.ext O.2) rfl ?_
      refine g_acmp C (pc' := 23) (same := false) at_14 rfl rfl rfl (decide_eq_false fun q => (Ne.symm (Fld.ne F_PC_ordinal F_OA_ordinal (own_ine (by decide)))) (Value.ref.inj q)) (by decide) (by decide) ?_
      refine g_aloadN C (pc' := 24) at_23 rfl rfl rfl ?_
      refine g_getS C (pc' := 27) (wd hw 5 rfl) Via.refl at_24 (S_PC.ext O.2) rfl ?_
      refine g_acmp C (pc' := 30) (same := true) at_27 rfl rfl rfl (decide_eq_true rfl) (by decide) (by decide) ?_
      refine g_aloadN C (pc' := 31) at_30 rfl rfl rfl ?_
      refine g_callS C (pc' := 34) (k' := 0) (n' := 0) (argsL := [(.ref s_OA)]) (rest := []) (wd hw 28 rfl) (wd hw 29 rfl) (wd hw 2 rfl) (wd hw 30 rfl) (by decide) at_31 pd_1 rfl rfl rfl (isA_OA l Z a0 hw n0 h O s_PC s_OA s_O s_UA s_U H) (Nat.le_of_ble_eq_true rfl) (Nat.le_of_ble_eq_true rfl) (Nat.le_of_ble_eq_true rfl) (Nat.le_of_ble_eq_true rfl) rfl rfl rfl (fun v272 h271 q273 => ?_)
      obtain ⟨rfl, eh271⟩ := q273
      subst h271
      show G w _ h 0 0 34 #[.val (.int p0), .val (.int p1), .val (.ref s_OA), .val (.ref s_PC), .unset] [(.int (1 : Int32))]
      refine g_istore C (pc' := 36) (Ls' := #[.val (.int p0), .val (.int p1), .val (.ref s_OA), .val (.ref s_PC), .val (.int (1 : Int32))]) at_34 rfl rfl rfl ?_
      refine g_goto C (pc' := 64) at_36 (by decide) rfl ?_
      refine g_aloadN C (pc' := 65) at_64 rfl rfl rfl ?_
      refine g_aloadN C (pc' := 66) at_65 rfl rfl rfl ?_
      refine g_virtual C (pc' := 69) (k' := 0) (n' := 0) (argsL := [(.ref s_PC)]) (rest := []) (wd hw 10 rfl) (wd hw 11 rfl) (nfSel (wd hw 13 rfl)) (wd hw 13 rfl) (wd hw 12 rfl) (wd hw 6 rfl) (wd hw 14 rfl) (by decide) at_66 pd_1 rfl rfl rfl (E_OA.ext O.2) (may_OA_PC l Z a0 hw n0 h O s_PC s_OA s_O s_UA s_U H) (Nat.le_of_ble_eq_true rfl) (Nat.le_of_ble_eq_true rfl) (Nat.le_of_ble_eq_true rfl) (Nat.le_of_ble_eq_true rfl) rfl rfl rfl (fun v275 h274 q276 => ?_)
      obtain ⟨rfl, eh274⟩ := q276
      subst h274
      show G w _ h 0 0 69 #[.val (.int p0), .val (.int p1), .val (.ref s_OA), .val (.ref s_PC), .val (.int (1 : Int32))] [(.int (1 : Int32))]
      refine g_iload C (pc' := 71) at_69 rfl rfl ?_
      refine g_icN C (pc' := 74) at_71 rfl (by decide) rfl ?_
      refine g_iconst C (pc' := 75) (v := (1 : Int32)) at_74 (by decide) rfl ?_
      refine g_goto C (pc' := 79) at_75 (by decide) rfl ?_
      exact g_zreturn C at_79 rfl rfl (Nat.le_of_ble_eq_true rfl) (Nat.le_of_ble_eq_true rfl) (rfl)
    · refine g_iloadN C (pc' := 1) at_0 rfl rfl ?_
      refine g_callS C (pc' := 4) (k' := 0) (n' := 0) (argsL := [(.int p0)]) (rest := []) (wd hw 0 rfl) (wd hw 1 rfl) (wd hw 2 rfl) (wd hw 3 rfl) (by decide) at_1 pd_0 rfl rfl rfl (kind_OA l Z a0 hw n0 h O s_PC s_OA s_O s_UA s_U H p0 e0) (Nat.le_of_ble_eq_true rfl) (Nat.le_of_ble_eq_true rfl) (Nat.le_of_ble_eq_true rfl) (Nat.le_of_ble_eq_true rfl) rfl rfl rfl (fun v278 h277 q279 => ?_)
      obtain ⟨rfl, eh277⟩ := q279
      subst h277
      show G w _ h 0 0 4 #[.val (.int p0), .val (.int p1), .unset, .unset, .unset] [(.ref s_OA)]
      refine g_astoreN C (pc' := 5) (Ls' := #[.val (.int p0), .val (.int p1), .val (.ref s_OA), .unset, .unset]) at_4 rfl rfl rfl rfl ?_
      refine g_iloadN C (pc' := 6) at_5 rfl rfl ?_
      refine g_callS C (pc' := 9) (k' := 0) (n' := 0) (argsL := [(.int p1)]) (rest := []) (wd hw 0 rfl) (wd hw 1 rfl) (wd hw 2 rfl) (wd hw 3 rfl) (by decide) at_6 pd_0 rfl rfl rfl (kind_UA l Z a0 hw n0 h O s_PC s_OA s_O s_UA s_U H p1 e1) (Nat.le_of_ble_eq_true rfl) (Nat.le_of_ble_eq_true rfl) (Nat.le_of_ble_eq_true rfl) (Nat.le_of_ble_eq_true rfl) rfl rfl rfl (fun v281 h280 q282 => ?_)
      obtain ⟨rfl, eh280⟩ := q282
      subst h280
      show G w _ h 0 0 9 #[.val (.int p0), .val (.int p1), .val (.ref s_OA), .unset, .unset] [(.ref s_UA)]
      refine g_astoreN C (pc' := 10) (Ls' := #[.val (.int p0), .val (.int p1), .val (.ref s_OA), .val (.ref s_UA), .unset]) at_9 rfl rfl rfl rfl ?_
      refine g_aloadN C (pc' := 11) at_10 rfl rfl rfl ?_
      refine g_getS C (pc' := 14) (wd hw 5 rfl) Via.refl at_11 (S_PC.ext O.2) rfl ?_
      refine g_acmp C (pc' := 23) (same := false) at_14 rfl rfl rfl (decide_eq_false fun q => (Ne.symm (Fld.ne F_PC_ordinal F_OA_ordinal (own_ine (by decide)))) (Value.ref.inj q)) (by decide) (by decide) ?_
      refine g_aloadN C (pc' := 24) at_23 rfl rfl rfl ?_
      refine g_getS C (pc' := 27) (wd hw 5 rfl) Via.refl at_24 (S_PC.ext O.2) rfl ?_
      refine g_acmp C (pc' := 39) (same := false) at_27 rfl rfl rfl (decide_eq_false fun q => (Ne.symm (Fld.ne F_PC_ordinal F_UA_ordinal (own_ine (by decide)))) (Value.ref.inj q)) (by decide) (by decide) ?_
      refine g_aloadN C (pc' := 40) at_39 rfl rfl rfl ?_
      refine g_callS C (pc' := 43) (k' := 0) (n' := 0) (argsL := [(.ref s_UA)]) (rest := []) (wd hw 28 rfl) (wd hw 29 rfl) (wd hw 2 rfl) (wd hw 30 rfl) (by decide) at_40 pd_1 rfl rfl rfl (isA_UA l Z a0 hw n0 h O s_PC s_OA s_O s_UA s_U H) (Nat.le_of_ble_eq_true rfl) (Nat.le_of_ble_eq_true rfl) (Nat.le_of_ble_eq_true rfl) (Nat.le_of_ble_eq_true rfl) rfl rfl rfl (fun v284 h283 q285 => ?_)
      obtain ⟨rfl, eh283⟩ := q285
      subst h283
      show G w _ h 0 0 43 #[.val (.int p0), .val (.int p1), .val (.ref s_OA), .val (.ref s_UA), .unset] [(.int (1 : Int32))]
      refine g_ifN C (pc' := 46) at_43 rfl (by decide) rfl ?_
      refine g_aloadN C (pc' := 47) at_46 rfl rfl rfl ?_
      refine g_callS C (pc' := 50) (k' := 0) (n' := 0) (argsL := [(.ref s_UA)]) (rest := []) (wd hw 31 rfl) (wd hw 32 rfl) (wd hw 2 rfl) (wd hw 33 rfl) (by decide) at_47 pd_3 rfl rfl rfl (side_UA l Z a0 hw n0 h O s_PC s_OA s_O s_UA s_U H) (Nat.le_of_ble_eq_true rfl) (Nat.le_of_ble_eq_true rfl) (Nat.le_of_ble_eq_true rfl) (Nat.le_of_ble_eq_true rfl) rfl rfl rfl (fun v287 h286 q288 => ?_)
      obtain ⟨rfl, eh286⟩ := q288
      subst h286
      show G w _ h 0 0 50 #[.val (.int p0), .val (.int p1), .val (.ref s_OA), .val (.ref s_UA), .unset] [(.int (1 : Int32))]
      refine g_aloadN C (pc' := 51) at_50 rfl rfl rfl ?_
      refine g_callS C (pc' := 54) (k' := 0) (n' := 0) (argsL := [(.ref s_OA)]) (rest := [(.int (1 : Int32))]) (wd hw 31 rfl) (wd hw 32 rfl) (wd hw 2 rfl) (wd hw 33 rfl) (by decide) at_51 pd_3 rfl rfl rfl (side_OA l Z a0 hw n0 h O s_PC s_OA s_O s_UA s_U H) (Nat.le_of_ble_eq_true rfl) (Nat.le_of_ble_eq_true rfl) (Nat.le_of_ble_eq_true rfl) (Nat.le_of_ble_eq_true rfl) rfl rfl rfl (fun v290 h289 q291 => ?_)
      obtain ⟨rfl, eh289⟩ := q291
      subst h289
      show G w _ h 0 0 54 #[.val (.int p0), .val (.int p1), .val (.ref s_OA), .val (.ref s_UA), .unset] [(.int (2 : Int32)), (.int (1 : Int32))]
      refine g_icY C (pc' := 61) at_54 rfl (by decide) (by decide) rfl ?_
      refine g_iconst C (pc' := 62) (v := (0 : Int32)) at_61 (by decide) rfl ?_
      refine g_istore C (pc' := 64) (Ls' := #[.val (.int p0), .val (.int p1), .val (.ref s_OA), .val (.ref s_UA), .val (.int (0 : Int32))]) at_62 rfl rfl rfl ?_
      refine g_aloadN C (pc' := 65) at_64 rfl rfl rfl ?_
      refine g_aloadN C (pc' := 66) at_65 rfl rfl rfl ?_
      refine g_virtual C (pc' := 69) (k' := 0) (n' := 0) (argsL := [(.ref s_UA)]) (rest := []) (wd hw 10 rfl) (wd hw 11 rfl) (nfSel (wd hw 13 rfl)) (wd hw 13 rfl) (wd hw 12 rfl) (wd hw 6 rfl) (wd hw 14 rfl) (by decide) at_66 pd_1 rfl rfl rfl (E_OA.ext O.2) (may_OA_UA l Z a0 hw n0 h O s_PC s_OA s_O s_UA s_U H) (Nat.le_of_ble_eq_true rfl) (Nat.le_of_ble_eq_true rfl) (Nat.le_of_ble_eq_true rfl) (Nat.le_of_ble_eq_true rfl) rfl rfl rfl (fun v293 h292 q294 => ?_)
      obtain ⟨rfl, eh292⟩ := q294
      subst h292
      show G w _ h 0 0 69 #[.val (.int p0), .val (.int p1), .val (.ref s_OA), .val (.ref s_UA), .val (.int (0 : Int32))] [(.int (0 : Int32))]
      refine g_iload C (pc' := 71) at_69 rfl rfl ?_
      refine g_icN C (pc' := 74) at_71 rfl (by decide) rfl ?_
      refine g_iconst C (pc' := 75) (v := (1 : Int32)) at_74 (by decide) rfl ?_
      refine g_goto C (pc' := 79) at_75 (by decide) rfl ?_
      exact g_zreturn C at_79 rfl rfl (Nat.le_of_ble_eq_true rfl) (Nat.le_of_ble_eq_true rfl) (rfl)
    · refine g_iloadN C (pc' := 1) at_0 rfl rfl ?_
      refine g_callS C (pc' := 4) (k' := 0) (n' := 0) (argsL := [(.int p0)]) (rest := []) (wd hw 0 rfl) (wd hw 1 rfl) (wd hw 2 rfl) (wd hw 3 rfl) (by decide) at_1 pd_0 rfl rfl rfl (kind_OA l Z a0 hw n0 h O s_PC s_OA s_O s_UA s_U H p0 e0) (Nat.le_of_ble_eq_true rfl) (Nat.le_of_ble_eq_true rfl) (Nat.le_of_ble_eq_true rfl) (Nat.le_of_ble_eq_true rfl) rfl rfl rfl (fun v296 h295 q297 => ?_)
      obtain ⟨rfl, eh295⟩ := q297
      subst h295
      show G w _ h 0 0 4 #[.val (.int p0), .val (.int p1), .unset, .unset, .unset] [(.ref s_OA)]
      refine g_astoreN C (pc' := 5) (Ls' := #[.val (.int p0), .val (.int p1), .val (.ref s_OA), .unset, .unset]) at_4 rfl rfl rfl rfl ?_
      refine g_iloadN C (pc' := 6) at_5 rfl rfl ?_
      refine g_callS C (pc' := 9) (k' := 0) (n' := 0) (argsL := [(.int p1)]) (rest := []) (wd hw 0 rfl) (wd hw 1 rfl) (wd hw 2 rfl) (wd hw 3 rfl) (by decide) at_6 pd_0 rfl rfl rfl (kind_U l Z a0 hw n0 h O s_PC s_OA s_O s_UA s_U H p1 e1) (Nat.le_of_ble_eq_true rfl) (Nat.le_of_ble_eq_true rfl) (Nat.le_of_ble_eq_true rfl) (Nat.le_of_ble_eq_true rfl) rfl rfl rfl (fun v299 h298 q300 => ?_)
      obtain ⟨rfl, eh298⟩ := q300
      subst h298
      show G w _ h 0 0 9 #[.val (.int p0), .val (.int p1), .val (.ref s_OA), .unset, .unset] [(.ref s_U)]
      refine g_astoreN C (pc' := 10) (Ls' := #[.val (.int p0), .val (.int p1), .val (.ref s_OA), .val (.ref s_U), .unset]) at_9 rfl rfl rfl rfl ?_
      refine g_aloadN C (pc' := 11) at_10 rfl rfl rfl ?_
      refine g_getS C (pc' := 14) (wd hw 5 rfl) Via.refl at_11 (S_PC.ext O.2) rfl ?_
      refine g_acmp C (pc' := 23) (same := false) at_14 rfl rfl rfl (decide_eq_false fun q => (Ne.symm (Fld.ne F_PC_ordinal F_OA_ordinal (own_ine (by decide)))) (Value.ref.inj q)) (by decide) (by decide) ?_
      refine g_aloadN C (pc' := 24) at_23 rfl rfl rfl ?_
      refine g_getS C (pc' := 27) (wd hw 5 rfl) Via.refl at_24 (S_PC.ext O.2) rfl ?_
      refine g_acmp C (pc' := 39) (same := false) at_27 rfl rfl rfl (decide_eq_false fun q => (Ne.symm (Fld.ne F_PC_ordinal F_U_ordinal (own_ine (by decide)))) (Value.ref.inj q)) (by decide) (by decide) ?_
      refine g_aloadN C (pc' := 40) at_39 rfl rfl rfl ?_
      refine g_callS C (pc' := 43) (k' := 0) (n' := 0) (argsL := [(.ref s_U)]) (rest := []) (wd hw 28 rfl) (wd hw 29 rfl) (wd hw 2 rfl) (wd hw 30 rfl) (by decide) at_40 pd_1 rfl rfl rfl (isA_U l Z a0 hw n0 h O s_PC s_OA s_O s_UA s_U H) (Nat.le_of_ble_eq_true rfl) (Nat.le_of_ble_eq_true rfl) (Nat.le_of_ble_eq_true rfl) (Nat.le_of_ble_eq_true rfl) rfl rfl rfl (fun v302 h301 q303 => ?_)
      obtain ⟨rfl, eh301⟩ := q303
      subst h301
      show G w _ h 0 0 43 #[.val (.int p0), .val (.int p1), .val (.ref s_OA), .val (.ref s_U), .unset] [(.int (0 : Int32))]
      refine g_ifY C (pc' := 61) at_43 rfl (by decide) (by decide) rfl ?_
      refine g_iconst C (pc' := 62) (v := (0 : Int32)) at_61 (by decide) rfl ?_
      refine g_istore C (pc' := 64) (Ls' := #[.val (.int p0), .val (.int p1), .val (.ref s_OA), .val (.ref s_U), .val (.int (0 : Int32))]) at_62 rfl rfl rfl ?_
      refine g_aloadN C (pc' := 65) at_64 rfl rfl rfl ?_
      refine g_aloadN C (pc' := 66) at_65 rfl rfl rfl ?_
      refine g_virtual C (pc' := 69) (k' := 0) (n' := 0) (argsL := [(.ref s_U)]) (rest := []) (wd hw 10 rfl) (wd hw 11 rfl) (nfSel (wd hw 13 rfl)) (wd hw 13 rfl) (wd hw 12 rfl) (wd hw 6 rfl) (wd hw 14 rfl) (by decide) at_66 pd_1 rfl rfl rfl (E_OA.ext O.2) (may_OA_U l Z a0 hw n0 h O s_PC s_OA s_O s_UA s_U H) (Nat.le_of_ble_eq_true rfl) (Nat.le_of_ble_eq_true rfl) (Nat.le_of_ble_eq_true rfl) (Nat.le_of_ble_eq_true rfl) rfl rfl rfl (fun v305 h304 q306 => ?_)
      obtain ⟨rfl, eh304⟩ := q306
      subst h304
      show G w _ h 0 0 69 #[.val (.int p0), .val (.int p1), .val (.ref s_OA), .val (.ref s_U), .val (.int (0 : Int32))] [(.int (0 : Int32))]
      refine g_iload C (pc' := 71) at_69 rfl rfl ?_
      refine g_icN C (pc' := 74) at_71 rfl (by decide) rfl ?_
      refine g_iconst C (pc' := 75) (v := (1 : Int32)) at_74 (by decide) rfl ?_
      refine g_goto C (pc' := 79) at_75 (by decide) rfl ?_
      exact g_zreturn C at_79 rfl rfl (Nat.le_of_ble_eq_true rfl) (Nat.le_of_ble_eq_true rfl) (rfl)
    · refine g_iloadN C (pc' := 1) at_0 rfl rfl ?_
      refine g_callS C (pc' := 4) (k' := 0) (n' := 0) (argsL := [(.int p0)]) (rest := []) (wd hw 0 rfl) (wd hw 1 rfl) (wd hw 2 rfl) (wd hw 3 rfl) (by decide) at_1 pd_0 rfl rfl rfl (kind_OA l Z a0 hw n0 h O s_PC s_OA s_O s_UA s_U H p0 e0) (Nat.le_of_ble_eq_true rfl) (Nat.le_of_ble_eq_true rfl) (Nat.le_of_ble_eq_true rfl) (Nat.le_of_ble_eq_true rfl) rfl rfl rfl (fun v308 h307 q309 => ?_)
      obtain ⟨rfl, eh307⟩ := q309
      subst h307
      show G w _ h 0 0 4 #[.val (.int p0), .val (.int p1), .unset, .unset, .unset] [(.ref s_OA)]
      refine g_astoreN C (pc' := 5) (Ls' := #[.val (.int p0), .val (.int p1), .val (.ref s_OA), .unset, .unset]) at_4 rfl rfl rfl rfl ?_
      refine g_iloadN C (pc' := 6) at_5 rfl rfl ?_
      refine g_callS C (pc' := 9) (k' := 0) (n' := 0) (argsL := [(.int p1)]) (rest := []) (wd hw 0 rfl) (wd hw 1 rfl) (wd hw 2 rfl) (wd hw 3 rfl) (by decide) at_6 pd_0 rfl rfl rfl (kind_OA l Z a0 hw n0 h O s_PC s_OA s_O s_UA s_U H p1 e1) (Nat.le_of_ble_eq_true rfl) (Nat.le_of_ble_eq_true rfl) (Nat.le_of_ble_eq_true rfl) (Nat.le_of_ble_eq_true rfl) rfl rfl rfl (fun v311 h310 q312 => ?_)
      obtain ⟨rfl, eh310⟩ := q312
      subst h310
      show G w _ h 0 0 9 #[.val (.int p0), .val (.int p1), .val (.ref s_OA), .unset, .unset] [(.ref s_OA)]
      refine g_astoreN C (pc' := 10) (Ls' := #[.val (.int p0), .val (.int p1), .val (.ref s_OA), .val (.ref s_OA), .unset]) at_9 rfl rfl rfl rfl ?_
      refine g_aloadN C (pc' := 11) at_10 rfl rfl rfl ?_
      refine g_getS C (pc' := 14) (wd hw 5 rfl) Via.refl at_11 (S_PC.ext O.2) rfl ?_
      refine g_acmp C (pc' := 23) (same := false) at_14 rfl rfl rfl (decide_eq_false fun q => (Ne.symm (Fld.ne F_PC_ordinal F_OA_ordinal (own_ine (by decide)))) (Value.ref.inj q)) (by decide) (by decide) ?_
      refine g_aloadN C (pc' := 24) at_23 rfl rfl rfl ?_
      refine g_getS C (pc' := 27) (wd hw 5 rfl) Via.refl at_24 (S_PC.ext O.2) rfl ?_
      refine g_acmp C (pc' := 39) (same := false) at_27 rfl rfl rfl (decide_eq_false fun q => (Ne.symm (Fld.ne F_PC_ordinal F_OA_ordinal (own_ine (by decide)))) (Value.ref.inj q)) (by decide) (by decide) ?_
      refine g_aloadN C (pc' := 40) at_39 rfl rfl rfl ?_
      refine g_callS C (pc' := 43) (k' := 0) (n' := 0) (argsL := [(.ref s_OA)]) (rest := []) (wd hw 28 rfl) (wd hw 29 rfl) (wd hw 2 rfl) (wd hw 30 rfl) (by decide) at_40 pd_1 rfl rfl rfl (isA_OA l Z a0 hw n0 h O s_PC s_OA s_O s_UA s_U H) (Nat.le_of_ble_eq_true rfl) (Nat.le_of_ble_eq_true rfl) (Nat.le_of_ble_eq_true rfl) (Nat.le_of_ble_eq_true rfl) rfl rfl rfl (fun v314 h313 q315 => ?_)
      obtain ⟨rfl, eh313⟩ := q315
      subst h313
      show G w _ h 0 0 43 #[.val (.int p0), .val (.int p1), .val (.ref s_OA), .val (.ref s_OA), .unset] [(.int (1 : Int32))]
      refine g_ifN C (pc' := 46) at_43 rfl (by decide) rfl ?_
      refine g_aloadN C (pc' := 47) at_46 rfl rfl rfl ?_
      refine g_callS C (pc' := 50) (k' := 0) (n' := 0) (argsL := [(.ref s_OA)]) (rest := []) (wd hw 31 rfl) (wd hw 32 rfl) (wd hw 2 rfl) (wd hw 33 rfl) (by decide) at_47 pd_3 rfl rfl rfl (side_OA l Z a0 hw n0 h O s_PC s_OA s_O s_UA s_U H) (Nat.le_of_ble_eq_true rfl) (Nat.le_of_ble_eq_true rfl) (Nat.le_of_ble_eq_true rfl) (Nat.le_of_ble_eq_true rfl) rfl rfl rfl (fun v317 h316 q318 => ?_)
      obtain ⟨rfl, eh316⟩ := q318
      subst h316
      show G w _ h 0 0 50 #[.val (.int p0), .val (.int p1), .val (.ref s_OA), .val (.ref s_OA), .unset] [(.int (2 : Int32))]
      refine g_aloadN C (pc' := 51) at_50 rfl rfl rfl ?_
      refine g_callS C (pc' := 54) (k' := 0) (n' := 0) (argsL := [(.ref s_OA)]) (rest := [(.int (2 : Int32))]) (wd hw 31 rfl) (wd hw 32 rfl) (wd hw 2 rfl) (wd hw 33 rfl) (by decide) at_51 pd_3 rfl rfl rfl (side_OA l Z a0 hw n0 h O s_PC s_OA s_O s_UA s_U H) (Nat.le_of_ble_eq_true rfl) (Nat.le_of_ble_eq_true rfl) (Nat.le_of_ble_eq_true rfl) (Nat.le_of_ble_eq_true rfl) rfl rfl rfl (fun v320 h319 q321 => ?_)
      obtain ⟨rfl, eh319⟩ := q321
      subst h319
      show G w _ h 0 0 54 #[.val (.int p0), .val (.int p1), .val (.ref s_OA), .val (.ref s_OA), .unset] [(.int (2 : Int32)), (.int (2 : Int32))]
      refine g_icN C (pc' := 57) at_54 rfl (by decide) rfl ?_
      refine g_iconst C (pc' := 58) (v := (1 : Int32)) at_57 (by decide) rfl ?_
      refine g_goto C (pc' := 62) at_58 (by decide) rfl ?_
      refine g_istore C (pc' := 64) (Ls' := #[.val (.int p0), .val (.int p1), .val (.ref s_OA), .val (.ref s_OA), .val (.int (1 : Int32))]) at_62 rfl rfl rfl ?_
      refine g_aloadN C (pc' := 65) at_64 rfl rfl rfl ?_
      refine g_aloadN C (pc' := 66) at_65 rfl rfl rfl ?_
      refine g_virtual C (pc' := 69) (k' := 0) (n' := 0) (argsL := [(.ref s_OA)]) (rest := []) (wd hw 10 rfl) (wd hw 11 rfl) (nfSel (wd hw 13 rfl)) (wd hw 13 rfl) (wd hw 12 rfl) (wd hw 6 rfl) (wd hw 14 rfl) (by decide) at_66 pd_1 rfl rfl rfl (E_OA.ext O.2) (may_OA_OA l Z a0 hw n0 h O s_PC s_OA s_O s_UA s_U H) (Nat.le_of_ble_eq_true rfl) (Nat.le_of_ble_eq_true rfl) (Nat.le_of_ble_eq_true rfl) (Nat.le_of_ble_eq_true rfl) rfl rfl rfl (fun v323 h322 q324 => ?_)
      obtain ⟨rfl, eh322⟩ := q324
      subst h322
      show G w _ h 0 0 69 #[.val (.int p0), .val (.int p1), .val (.ref s_OA), .val (.ref s_OA), .val (.int (1 : Int32))] [(.int (1 : Int32))]
      refine g_iload C (pc' := 71) at_69 rfl rfl ?_
      refine g_icN C (pc' := 74) at_71 rfl (by decide) rfl ?_
      refine g_iconst C (pc' := 75) (v := (1 : Int32)) at_74 (by decide) rfl ?_
      refine g_goto C (pc' := 79) at_75 (by decide) rfl ?_
      exact g_zreturn C at_79 rfl rfl (Nat.le_of_ble_eq_true rfl) (Nat.le_of_ble_eq_true rfl) (rfl)
    · refine g_iloadN C (pc' := 1) at_0 rfl rfl ?_
      refine g_callS C (pc' := 4) (k' := 0) (n' := 0) (argsL := [(.int p0)]) (rest := []) (wd hw 0 rfl) (wd hw 1 rfl) (wd hw 2 rfl) (wd hw 3 rfl) (by decide) at_1 pd_0 rfl rfl rfl (kind_OA l Z a0 hw n0 h O s_PC s_OA s_O s_UA s_U H p0 e0) (Nat.le_of_ble_eq_true rfl) (Nat.le_of_ble_eq_true rfl) (Nat.le_of_ble_eq_true rfl) (Nat.le_of_ble_eq_true rfl) rfl rfl rfl (fun v326 h325 q327 => ?_)
      obtain ⟨rfl, eh325⟩ := q327
      subst h325
      show G w _ h 0 0 4 #[.val (.int p0), .val (.int p1), .unset, .unset, .unset] [(.ref s_OA)]
      refine g_astoreN C (pc' := 5) (Ls' := #[.val (.int p0), .val (.int p1), .val (.ref s_OA), .unset, .unset]) at_4 rfl rfl rfl rfl ?_
      refine g_iloadN C (pc' := 6) at_5 rfl rfl ?_
      refine g_callS C (pc' := 9) (k' := 0) (n' := 0) (argsL := [(.int p1)]) (rest := []) (wd hw 0 rfl) (wd hw 1 rfl) (wd hw 2 rfl) (wd hw 3 rfl) (by decide) at_6 pd_0 rfl rfl rfl (kind_O l Z a0 hw n0 h O s_PC s_OA s_O s_UA s_U H p1 e1) (Nat.le_of_ble_eq_true rfl) (Nat.le_of_ble_eq_true rfl) (Nat.le_of_ble_eq_true rfl) (Nat.le_of_ble_eq_true rfl) rfl rfl rfl (fun v329 h328 q330 => ?_)
      obtain ⟨rfl, eh328⟩ := q330
      subst h328
      show G w _ h 0 0 9 #[.val (.int p0), .val (.int p1), .val (.ref s_OA), .unset, .unset] [(.ref s_O)]
      refine g_astoreN C (pc' := 10) (Ls' := #[.val (.int p0), .val (.int p1), .val (.ref s_OA), .val (.ref s_O), .unset]) at_9 rfl rfl rfl rfl ?_
      refine g_aloadN C (pc' := 11) at_10 rfl rfl rfl ?_
      refine g_getS C (pc' := 14) (wd hw 5 rfl) Via.refl at_11 (S_PC.ext O.2) rfl ?_
      refine g_acmp C (pc' := 23) (same := false) at_14 rfl rfl rfl (decide_eq_false fun q => (Ne.symm (Fld.ne F_PC_ordinal F_OA_ordinal (own_ine (by decide)))) (Value.ref.inj q)) (by decide) (by decide) ?_
      refine g_aloadN C (pc' := 24) at_23 rfl rfl rfl ?_
      refine g_getS C (pc' := 27) (wd hw 5 rfl) Via.refl at_24 (S_PC.ext O.2) rfl ?_
      refine g_acmp C (pc' := 39) (same := false) at_27 rfl rfl rfl (decide_eq_false fun q => (Ne.symm (Fld.ne F_PC_ordinal F_O_ordinal (own_ine (by decide)))) (Value.ref.inj q)) (by decide) (by decide) ?_
      refine g_aloadN C (pc' := 40) at_39 rfl rfl rfl ?_
      refine g_callS C (pc' := 43) (k' := 0) (n' := 0) (argsL := [(.ref s_O)]) (rest := []) (wd hw 28 rfl) (wd hw 29 rfl) (wd hw 2 rfl) (wd hw 30 rfl) (by decide) at_40 pd_1 rfl rfl rfl (isA_O l Z a0 hw n0 h O s_PC s_OA s_O s_UA s_U H) (Nat.le_of_ble_eq_true rfl) (Nat.le_of_ble_eq_true rfl) (Nat.le_of_ble_eq_true rfl) (Nat.le_of_ble_eq_true rfl) rfl rfl rfl (fun v332 h331 q333 => ?_)
      obtain ⟨rfl, eh331⟩ := q333
      subst h331
      show G w _ h 0 0 43 #[.val (.int p0), .val (.int p1), .val (.ref s_OA), .val (.ref s_O), .unset] [(.int (0 : Int32))]
      refine g_ifY C (pc' := 61) at_43 rfl (by decide) (by decide) rfl ?_
      refine g_iconst C (pc' := 62) (v := (0 : Int32)) at_61 (by decide) rfl ?_
      refine g_istore C (pc' := 64) (Ls' := #[.val (.int p0), .val (.int p1), .val (.ref s_OA), .val (.ref s_O), .val (.int (0 : Int32))]) at_62 rfl rfl rfl ?_
      refine g_aloadN C (pc' := 65) at_64 rfl rfl rfl ?_
      refine g_aloadN C (pc' := 66) at_65 rfl rfl rfl ?_
      refine g_virtual C (pc' := 69) (k' := 0) (n' := 0) (argsL := [(.ref s_O)]) (rest := []) (wd hw 10 rfl) (wd hw 11 rfl) (nfSel (wd hw 13 rfl)) (wd hw 13 rfl) (wd hw 12 rfl) (wd hw 6 rfl) (wd hw 14 rfl) (by decide) at_66 pd_1 rfl rfl rfl (E_OA.ext O.2) (may_OA_O l Z a0 hw n0 h O s_PC s_OA s_O s_UA s_U H) (Nat.le_of_ble_eq_true rfl) (Nat.le_of_ble_eq_true rfl) (Nat.le_of_ble_eq_true rfl) (Nat.le_of_ble_eq_true rfl) rfl rfl rfl (fun v335 h334 q336 => ?_)
      obtain ⟨rfl, eh334⟩ := q336
      subst h334
      show G w _ h 0 0 69 #[.val (.int p0), .val (.int p1), .val (.ref s_OA), .val (.ref s_O), .val (.int (0 : Int32))] [(.int (0 : Int32))]
      refine g_iload C (pc' := 71) at_69 rfl rfl ?_
      refine g_icN C (pc' := 74) at_71 rfl (by decide) rfl ?_
      refine g_iconst C (pc' := 75) (v := (1 : Int32)) at_74 (by decide) rfl ?_
      refine g_goto C (pc' := 79) at_75 (by decide) rfl ?_
      exact g_zreturn C at_79 rfl rfl (Nat.le_of_ble_eq_true rfl) (Nat.le_of_ble_eq_true rfl) (rfl)
  · rcases own_mod5 p1 with e1 | e1 | e1 | e1 | e1
    · refine g_iloadN C (pc' := 1) at_0 rfl rfl ?_
      refine g_callS C (pc' := 4) (k' := 0) (n' := 0) (argsL := [(.int p0)]) (rest := []) (wd hw 0 rfl) (wd hw 1 rfl) (wd hw 2 rfl) (wd hw 3 rfl) (by decide) at_1 pd_0 rfl rfl rfl (kind_O l Z a0 hw n0 h O s_PC s_OA s_O s_UA s_U H p0 e0) (Nat.le_of_ble_eq_true rfl) (Nat.le_of_ble_eq_true rfl) (Nat.le_of_ble_eq_true rfl) (Nat.le_of_ble_eq_true rfl) rfl rfl rfl (fun v338 h337 q339 => ?_)
      obtain ⟨rfl, eh337⟩ := q339
      subst h337
      show G w _ h 0 0 4 #[.val (.int p0), .val (.int p1), .unset, .unset, .unset] [(.ref s_O)]
      refine g_astoreN C (pc' := 5) (Ls' := #[.val (.int p0), .val (.int p1), .val (.ref s_O), .unset, .unset]) at_4 rfl rfl rfl rfl ?_
      refine g_iloadN C (pc' := 6) at_5 rfl rfl ?_
      refine g_callS C (pc' := 9) (k' := 0) (n' := 0) (argsL := [(.int p1)]) (rest := []) (wd hw 0 rfl) (wd hw 1 rfl) (wd hw 2 rfl) (wd hw 3 rfl) (by decide) at_6 pd_0 rfl rfl rfl (kind_PC l Z a0 hw n0 h O s_PC s_OA s_O s_UA s_U H p1 e1) (Nat.le_of_ble_eq_true rfl) (Nat.le_of_ble_eq_true rfl) (Nat.le_of_ble_eq_true rfl) (Nat.le_of_ble_eq_true rfl) rfl rfl rfl (fun v341 h340 q342 => ?_)
      obtain ⟨rfl, eh340⟩ := q342
      subst h340
      show G w _ h 0 0 9 #[.val (.int p0), .val (.int p1), .val (.ref s_O), .unset, .unset] [(.ref s_PC)]
      refine g_astoreN C (pc' := 10) (Ls' := #[.val (.int p0), .val (.int p1), .val (.ref s_O), .val (.ref s_PC), .unset]) at_9 rfl rfl rfl rfl ?_
      refine g_aloadN C (pc' := 11) at_10 rfl rfl rfl ?_
      refine g_getS C (pc' := 14) (wd hw 5 rfl) Via.refl at_11 (S_PC.ext O.2) rfl ?_
      refine g_acmp C (pc' := 23) (same := false) at_14 rfl rfl rfl (decide_eq_false fun q => (Ne.symm (Fld.ne F_PC_ordinal F_O_ordinal (own_ine (by decide)))) (Value.ref.inj q)) (by decide) (by decide) ?_
      refine g_aloadN C (pc' := 24) at_23 rfl rfl rfl ?_
      refine g_getS C (pc' := 27) (wd hw 5 rfl) Via.refl at_24 (S_PC.ext O.2) rfl ?_
      refine g_acmp C (pc' := 30) (same := true) at_27 rfl rfl rfl (decide_eq_true rfl) (by decide) (by decide) ?_
      refine g_aloadN C (pc' := 31) at_30 rfl rfl rfl ?_
      refine g_callS C (pc' := 34) (k' := 0) (n' := 0) (argsL := [(.ref s_O)]) (rest := []) (wd hw 28 rfl) (wd hw 29 rfl) (wd hw 2 rfl) (wd hw 30 rfl) (by decide) at_31 pd_1 rfl rfl rfl (isA_O l Z a0 hw n0 h O s_PC s_OA s_O s_UA s_U H) (Nat.le_of_ble_eq_true rfl) (Nat.le_of_ble_eq_true rfl) (Nat.le_of_ble_eq_true rfl) (Nat.le_of_ble_eq_true rfl) rfl rfl rfl (fun v344 h343 q345 => ?_)
      obtain ⟨rfl, eh343⟩ := q345
      subst h343
      show G w _ h 0 0 34 #[.val (.int p0), .val (.int p1), .val (.ref s_O), .val (.ref s_PC), .unset] [(.int (0 : Int32))]
      refine g_istore C (pc' := 36) (Ls' := #[.val (.int p0), .val (.int p1), .val (.ref s_O), .val (.ref s_PC), .val (.int (0 : Int32))]) at_34 rfl rfl rfl ?_
      refine g_goto C (pc' := 64) at_36 (by decide) rfl ?_
      refine g_aloadN C (pc' := 65) at_64 rfl rfl rfl ?_
      refine g_aloadN C (pc' := 66) at_65 rfl rfl rfl ?_
      refine g_virtual C (pc' := 69) (k' := 0) (n' := 0) (argsL := [(.ref s_PC)]) (rest := []) (wd hw 10 rfl) (wd hw 11 rfl) (nfSel (wd hw 13 rfl)) (wd hw 13 rfl) (wd hw 12 rfl) (wd hw 6 rfl) (wd hw 14 rfl) (by decide) at_66 pd_1 rfl rfl rfl (E_O.ext O.2) (may_O_PC l Z a0 hw n0 h O s_PC s_OA s_O s_UA s_U H) (Nat.le_of_ble_eq_true rfl) (Nat.le_of_ble_eq_true rfl) (Nat.le_of_ble_eq_true rfl) (Nat.le_of_ble_eq_true rfl) rfl rfl rfl (fun v347 h346 q348 => ?_)
      obtain ⟨rfl, eh346⟩ := q348
      subst h346
      show G w _ h 0 0 69 #[.val (.int p0), .val (.int p1), .val (.ref s_O), .val (.ref s_PC), .val (.int (0 : Int32))] [(.int (0 : Int32))]
      refine g_iload C (pc' := 71) at_69 rfl rfl ?_
      refine g_icN C (pc' := 74) at_71 rfl (by decide) rfl ?_
      refine g_iconst C (pc' := 75) (v := (1 : Int32)) at_74 (by decide) rfl ?_
      refine g_goto C (pc' := 79) at_75 (by decide) rfl ?_
      exact g_zreturn C at_79 rfl rfl (Nat.le_of_ble_eq_true rfl) (Nat.le_of_ble_eq_true rfl) (rfl)
    · refine g_iloadN C (pc' := 1) at_0 rfl rfl ?_
      refine g_callS C (pc' := 4) (k' := 0) (n' := 0) (argsL := [(.int p0)]) (rest := []) (wd hw 0 rfl) (wd hw 1 rfl) (wd hw 2 rfl) (wd hw 3 rfl) (by decide) at_1 pd_0 rfl rfl rfl (kind_O l Z a0 hw n0 h O s_PC s_OA s_O s_UA s_U H p0 e0) (Nat.le_of_ble_eq_true rfl) (Nat.le_of_ble_eq_true rfl) (Nat.le_of_ble_eq_true rfl) (Nat.le_of_ble_eq_true rfl) rfl rfl rfl (fun v350 h349 q351 => ?_)
      obtain ⟨rfl, eh349⟩ := q351
      subst h349
      show G w _ h 0 0 4 #[.val (.int p0), .val (.int p1), .unset, .unset, .unset] [(.ref s_O)]
      refine g_astoreN C (pc' := 5) (Ls' := #[.val (.int p0), .val (.int p1), .val (.ref s_O), .unset, .unset]) at_4 rfl rfl rfl rfl ?_
      refine g_iloadN C (pc' := 6) at_5 rfl rfl ?_
      refine g_callS C (pc' := 9) (k' := 0) (n' := 0) (argsL := [(.int p1)]) (rest := []) (wd hw 0 rfl) (wd hw 1 rfl) (wd hw 2 rfl) (wd hw 3 rfl) (by decide) at_6 pd_0 rfl rfl rfl (kind_UA l Z a0 hw n0 h O s_PC s_OA s_O s_UA s_U H p1 e1) (Nat.le_of_ble_eq_true rfl) (Nat.le_of_ble_eq_true rfl) (Nat.le_of_ble_eq_true rfl) (Nat.le_of_ble_eq_true rfl) rfl rfl rfl (fun v353 h352 q354 => ?_)
      obtain ⟨rfl, eh352⟩ := q354
      subst h352
      show G w _ h 0 0 9 #[.val (.int p0), .val (.int p1), .val (.ref s_O), .unset, .unset] [(.ref s_UA)]
      refine g_astoreN C (pc' := 10) (Ls' := #[.val (.int p0), .val (.int p1), .val (.ref s_O), .val (.ref s_UA), .unset]) at_9 rfl rfl rfl rfl ?_
      refine g_aloadN C (pc' := 11) at_10 rfl rfl rfl ?_
      refine g_getS C (pc' := 14) (wd hw 5 rfl) Via.refl at_11 (S_PC.ext O.2) rfl ?_
      refine g_acmp C (pc' := 23) (same := false) at_14 rfl rfl rfl (decide_eq_false fun q => (Ne.symm (Fld.ne F_PC_ordinal F_O_ordinal (own_ine (by decide)))) (Value.ref.inj q)) (by decide) (by decide) ?_
      refine g_aloadN C (pc' := 24) at_23 rfl rfl rfl ?_
      refine g_getS C (pc' := 27) (wd hw 5 rfl) Via.refl at_24 (S_PC.ext O.2) rfl ?_
      refine g_acmp C (pc' := 39) (same := false) at_27 rfl rfl rfl (decide_eq_false fun q => (Ne.symm (Fld.ne F_PC_ordinal F_UA_ordinal (own_ine (by decide)))) (Value.ref.inj q)) (by decide) (by decide) ?_
      refine g_aloadN C (pc' := 40) at_39 rfl rfl rfl ?_
      refine g_callS C (pc' := 43) (k' := 0) (n' := 0) (argsL := [(.ref s_UA)]) (rest := []) (wd hw 28 rfl) (wd hw 29 rfl) (wd hw 2 rfl) (wd hw 30 rfl) (by decide) at_40 pd_1 rfl rfl rfl (isA_UA l Z a0 hw n0 h O s_PC s_OA s_O s_UA s_U H) (Nat.le_of_ble_eq_true rfl) (Nat.le_of_ble_eq_true rfl) (Nat.le_of_ble_eq_true rfl) (Nat.le_of_ble_eq_true rfl) rfl rfl rfl (fun v356 h355 q357 => ?_)
      obtain ⟨rfl, eh355⟩ := q357
      subst h355
      show G w _ h 0 0 43 #[.val (.int p0), .val (.int p1), .val (.ref s_O), .val (.ref s_UA), .unset] [(.int (1 : Int32))]
      refine g_ifN C (pc' := 46) at_43 rfl (by decide) rfl ?_
      refine g_aloadN C (pc' := 47) at_46 rfl rfl rfl ?_
      refine g_callS C (pc' := 50) (k' := 0) (n' := 0) (argsL := [(.ref s_UA)]) (rest := []) (wd hw 31 rfl) (wd hw 32 rfl) (wd hw 2 rfl) (wd hw 33 rfl) (by decide) at_47 pd_3 rfl rfl rfl (side_UA l Z a0 hw n0 h O s_PC s_OA s_O s_UA s_U H) (Nat.le_of_ble_eq_true rfl) (Nat.le_of_ble_eq_true rfl) (Nat.le_of_ble_eq_true rfl) (Nat.le_of_ble_eq_true rfl) rfl rfl rfl (fun v359 h358 q360 => ?_)
      obtain ⟨rfl, eh358⟩ := q360
      subst h358
      show G w _ h 0 0 50 #[.val (.int p0), .val (.int p1), .val (.ref s_O), .val (.ref s_UA), .unset] [(.int (1 : Int32))]
      refine g_aloadN C (pc' := 51) at_50 rfl rfl rfl ?_
      refine g_callS C (pc' := 54) (k' := 0) (n' := 0) (argsL := [(.ref s_O)]) (rest := [(.int (1 : Int32))]) (wd hw 31 rfl) (wd hw 32 rfl) (wd hw 2 rfl) (wd hw 33 rfl) (by decide) at_51 pd_3 rfl rfl rfl (side_O l Z a0 hw n0 h O s_PC s_OA s_O s_UA s_U H) (Nat.le_of_ble_eq_true rfl) (Nat.le_of_ble_eq_true rfl) (Nat.le_of_ble_eq_true rfl) (Nat.le_of_ble_eq_true rfl) rfl rfl rfl (fun v362 h361 q363 => ?_)
      obtain ⟨rfl, eh361⟩ := q363
      subst h361
      show G w _ h 0 0 54 #[.val (.int p0), .val (.int p1), .val (.ref s_O), .val (.ref s_UA), .unset] [(.int (2 : Int32)), (.int (1 : Int32))]
      refine g_icY C (pc' := 61) at_54 rfl (by decide) (by decide) rfl ?_
      refine g_iconst C (pc' := 62) (v := (0 : Int32)) at_61 (by decide) rfl ?_
      refine g_istore C (pc' := 64) (Ls' := #[.val (.int p0), .val (.int p1), .val (.ref s_O), .val (.ref s_UA), .val (.int (0 : Int32))]) at_62 rfl rfl rfl ?_
      refine g_aloadN C (pc' := 65) at_64 rfl rfl rfl ?_
      refine g_aloadN C (pc' := 66) at_65 rfl rfl rfl ?_
      refine g_virtual C (pc' := 69) (k' := 0) (n' := 0) (argsL := [(.ref s_UA)]) (rest := []) (wd hw 10 rfl) (wd hw 11 rfl) (nfSel (wd hw 13 rfl)) (wd hw 13 rfl) (wd hw 12 rfl) (wd hw 6 rfl) (wd hw 14 rfl) (by decide) at_66 pd_1 rfl rfl rfl (E_O.ext O.2) (may_O_UA l Z a0 hw n0 h O s_PC s_OA s_O s_UA s_U H) (Nat.le_of_ble_eq_true rfl) (Nat.le_of_ble_eq_true rfl) (Nat.le_of_ble_eq_true rfl) (Nat.le_of_ble_eq_true rfl) rfl rfl rfl (fun v365 h364 q366 => ?_)
      obtain ⟨rfl, eh364⟩ := q366
      subst h364
      show G w _ h 0 0 69 #[.val (.int p0), .val (.int p1), .val (.ref s_O), .val (.ref s_UA), .val (.int (0 : Int32))] [(.int (0 : Int32))]
      refine g_iload C (pc' := 71) at_69 rfl rfl ?_
      refine g_icN C (pc' := 74) at_71 rfl (by decide) rfl ?_
      refine g_iconst C (pc' := 75) (v := (1 : Int32)) at_74 (by decide) rfl ?_
      refine g_goto C (pc' := 79) at_75 (by decide) rfl ?_
      exact g_zreturn C at_79 rfl rfl (Nat.le_of_ble_eq_true rfl) (Nat.le_of_ble_eq_true rfl) (rfl)
    · refine g_iloadN C (pc' := 1) at_0 rfl rfl ?_
      refine g_callS C (pc' := 4) (k' := 0) (n' := 0) (argsL := [(.int p0)]) (rest := []) (wd hw 0 rfl) (wd hw 1 rfl) (wd hw 2 rfl) (wd hw 3 rfl) (by decide) at_1 pd_0 rfl rfl rfl (kind_O l Z a0 hw n0 h O s_PC s_OA s_O s_UA s_U H p0 e0) (Nat.le_of_ble_eq_true rfl) (Nat.le_of_ble_eq_true rfl) (Nat.le_of_ble_eq_true rfl) (Nat.le_of_ble_eq_true rfl) rfl rfl rfl (fun v368 h367 q369 => ?_)
      obtain ⟨rfl, eh367⟩ := q369
      subst h367
      show G w _ h 0 0 4 #[.val (.int p0), .val (.int p1), .unset, .unset, .unset] [(.ref s_O)]
      refine g_astoreN C (pc' := 5) (Ls' := #[.val (.int p0), .val (.int p1), .val (.ref s_O), .unset, .unset]) at_4 rfl rfl rfl rfl ?_
      refine g_iloadN C (pc' := 6) at_5 rfl rfl ?_
      refine g_callS C (pc' := 9) (k' := 0) (n' := 0) (argsL := [(.int p1)]) (rest := []) (wd hw 0 rfl) (wd hw 1 rfl) (wd hw 2 rfl) (wd hw 3 rfl) (by decide) at_6 pd_0 rfl rfl rfl (kind_U l Z a0 hw n0 h O s_PC s_OA s_O s_UA s_U H p1 e1) (Nat.le_of_ble_eq_true rfl) (Nat.le_of_ble_eq_true rfl) (Nat.le_of_ble_eq_true rfl) (Nat.le_of_ble_eq_true rfl) rfl rfl rfl (fun v371 h370 q372 => ?_)
      obtain ⟨rfl, eh370⟩ := q372
      subst h370
      show G w _ h 0 0 9 #[.val (.int p0), .val (.int p1), .val (.ref s_O), .unset, .unset] [(.ref s_U)]
      refine g_astoreN C (pc' := 10) (Ls' := #[.val (.int p0), .val (.int p1), .val (.ref s_O), .val (.ref s_U), .unset]) at_9 rfl rfl rfl rfl ?_
      refine g_aloadN C (pc' := 11) at_10 rfl rfl rfl ?_
      refine g_getS C (pc' := 14) (wd hw 5 rfl) Via.refl at_11 (S_PC.ext O.2) rfl ?_
      refine g_acmp C (pc' := 23) (same := false) at_14 rfl rfl rfl (decide_eq_false fun q => (Ne.symm (Fld.ne F_PC_ordinal F_O_ordinal (own_ine (by decide)))) (Value.ref.inj q)) (by decide) (by decide) ?_
      refine g_aloadN C (pc' := 24) at_23 rfl rfl rfl ?_
      refine g_getS C (pc' := 27) (wd hw 5 rfl) Via.refl at_24 (S_PC.ext O.2) rfl ?_
      refine g_acmp C (pc' := 39) (same := false) at_27 rfl rfl rfl (decide_eq_false fun q => (Ne.symm (Fld.ne F_PC_ordinal F_U_ordinal (own_ine (by decide)))) (Value.ref.inj q)) (by decide) (by decide) ?_
      refine g_aloadN C (pc' := 40) at_39 rfl rfl rfl ?_
      refine g_callS C (pc' := 43) (k' := 0) (n' := 0) (argsL := [(.ref s_U)]) (rest := []) (wd hw 28 rfl) (wd hw 29 rfl) (wd hw 2 rfl) (wd hw 30 rfl) (by decide) at_40 pd_1 rfl rfl rfl (isA_U l Z a0 hw n0 h O s_PC s_OA s_O s_UA s_U H) (Nat.le_of_ble_eq_true rfl) (Nat.le_of_ble_eq_true rfl) (Nat.le_of_ble_eq_true rfl) (Nat.le_of_ble_eq_true rfl) rfl rfl rfl (fun v374 h373 q375 => ?_)
      obtain ⟨rfl, eh373⟩ := q375
      subst h373
      show G w _ h 0 0 43 #[.val (.int p0), .val (.int p1), .val (.ref s_O), .val (.ref s_U), .unset] [(.int (0 : Int32))]
      refine g_ifY C (pc' := 61) at_43 rfl (by decide) (by decide) rfl ?_
      refine g_iconst C (pc' := 62) (v := (0 : Int32)) at_61 (by decide) rfl ?_
      refine g_istore C (pc' := 64) (Ls' := #[.val (.int p0), .val (.int p1), .val (.ref s_O), .val (.ref s_U), .val (.int (0 : Int32))]) at_62 rfl rfl rfl ?_
      refine g_aloadN C (pc' := 65) at_64 rfl rfl rfl ?_
      refine g_aloadN C (pc' := 66) at_65 rfl rfl rfl ?_
      refine g_virtual C (pc' := 69) (k' := 0) (n' := 0) (argsL := [(.ref s_U)]) (rest := []) (wd hw 10 rfl) (wd hw 11 rfl) (nfSel (wd hw 13 rfl)) (wd hw 13 rfl) (wd hw 12 rfl) (wd hw 6 rfl) (wd hw 14 rfl) (by decide) at_66 pd_1 rfl rfl rfl (E_O.ext O.2) (may_O_U l Z a0 hw n0 h O s_PC s_OA s_O s_UA s_U H) (Nat.le_of_ble_eq_true rfl) (Nat.le_of_ble_eq_true rfl) (Nat.le_of_ble_eq_true rfl) (Nat.le_of_ble_eq_true rfl) rfl rfl rfl (fun v377 h376 q378 => ?_)
      obtain ⟨rfl, eh376⟩ := q378
      subst h376
      show G w _ h 0 0 69 #[.val (.int p0), .val (.int p1), .val (.ref s_O), .val (.ref s_U), .val (.int (0 : Int32))] [(.int (0 : Int32))]
      refine g_iload C (pc' := 71) at_69 rfl rfl ?_
      refine g_icN C (pc' := 74) at_71 rfl (by decide) rfl ?_
      refine g_iconst C (pc' := 75) (v := (1 : Int32)) at_74 (by decide) rfl ?_
      refine g_goto C (pc' := 79) at_75 (by decide) rfl ?_
      exact g_zreturn C at_79 rfl rfl (Nat.le_of_ble_eq_true rfl) (Nat.le_of_ble_eq_true rfl) (rfl)
    · refine g_iloadN C (pc' := 1) at_0 rfl rfl ?_
      refine g_callS C (pc' := 4) (k' := 0) (n' := 0) (argsL := [(.int p0)]) (rest := []) (wd hw 0 rfl) (wd hw 1 rfl) (wd hw 2 rfl) (wd hw 3 rfl) (by decide) at_1 pd_0 rfl rfl rfl (kind_O l Z a0 hw n0 h O s_PC s_OA s_O s_UA s_U H p0 e0) (Nat.le_of_ble_eq_true rfl) (Nat.le_of_ble_eq_true rfl) (Nat.le_of_ble_eq_true rfl) (Nat.le_of_ble_eq_true rfl) rfl rfl rfl (fun v380 h379 q381 => ?_)
      obtain ⟨rfl, eh379⟩ := q381
      subst h379
      show G w _ h 0 0 4 #[.val (.int p0), .val (.int p1), .unset, .unset, .unset] [(.ref s_O)]
      refine g_astoreN C (pc' := 5) (Ls' := #[.val (.int p0), .val (.int p1), .val (.ref s_O), .unset, .unset]) at_4 rfl rfl rfl rfl ?_
      refine g_iloadN C (pc' := 6) at_5 rfl rfl ?_
      refine g_callS C (pc' := 9) (k' := 0) (n' := 0) (argsL := [(.int p1)]) (rest := []) (wd hw 0 rfl) (wd hw 1 rfl) (wd hw 2 rfl) (wd hw 3 rfl) (by decide) at_6 pd_0 rfl rfl rfl (kind_OA l Z a0 hw n0 h O s_PC s_OA s_O s_UA s_U H p1 e1) (Nat.le_of_ble_eq_true rfl) (Nat.le_of_ble_eq_true rfl) (Nat.le_of_ble_eq_true rfl) (Nat.le_of_ble_eq_true rfl) rfl rfl rfl (fun v383 h382 q384 => ?_)
      obtain ⟨rfl, eh382⟩ := q384
      subst h382
      show G w _ h 0 0 9 #[.val (.int p0), .val (.int p1), .val (.ref s_O), .unset, .unset] [(.ref s_OA)]
      refine g_astoreN C (pc' := 10) (Ls' := #[.val (.int p0), .val (.int p1), .val (.ref s_O), .val (.ref s_OA), .unset]) at_9 rfl rfl rfl rfl ?_
      refine g_aloadN C (pc' := 11) at_10 rfl rfl rfl ?_
      refine g_getS C (pc' := 14) (wd hw 5 rfl) Via.refl at_11 (S_PC.ext O.2) rfl ?_
      refine g_acmp C (pc' := 23) (same := false) at_14 rfl rfl rfl (decide_eq_false fun q => (Ne.symm (Fld.ne F_PC_ordinal F_O_ordinal (own_ine (by decide)))) (Value.ref.inj q)) (by decide) (by decide) ?_
      refine g_aloadN C (pc' := 24) at_23 rfl rfl rfl ?_
      refine g_getS C (pc' := 27) (wd hw 5 rfl) Via.refl at_24 (S_PC.ext O.2) rfl ?_
      refine g_acmp C (pc' := 39) (same := false) at_27 rfl rfl rfl (decide_eq_false fun q => (Ne.symm (Fld.ne F_PC_ordinal F_OA_ordinal (own_ine (by decide)))) (Value.ref.inj q)) (by decide) (by decide) ?_
      refine g_aloadN C (pc' := 40) at_39 rfl rfl rfl ?_
      refine g_callS C (pc' := 43) (k' := 0) (n' := 0) (argsL := [(.ref s_OA)]) (rest := []) (wd hw 28 rfl) (wd hw 29 rfl) (wd hw 2 rfl) (wd hw 30 rfl) (by decide) at_40 pd_1 rfl rfl rfl (isA_OA l Z a0 hw n0 h O s_PC s_OA s_O s_UA s_U H) (Nat.le_of_ble_eq_true rfl) (Nat.le_of_ble_eq_true rfl) (Nat.le_of_ble_eq_true rfl) (Nat.le_of_ble_eq_true rfl) rfl rfl rfl (fun v386 h385 q387 => ?_)
      obtain ⟨rfl, eh385⟩ := q387
      subst h385
      show G w _ h 0 0 43 #[.val (.int p0), .val (.int p1), .val (.ref s_O), .val (.ref s_OA), .unset] [(.int (1 : Int32))]
      refine g_ifN C (pc' := 46) at_43 rfl (by decide) rfl ?_
      refine g_aloadN C (pc' := 47) at_46 rfl rfl rfl ?_
      refine g_callS C (pc' := 50) (k' := 0) (n' := 0) (argsL := [(.ref s_OA)]) (rest := []) (wd hw 31 rfl) (wd hw 32 rfl) (wd hw 2 rfl) (wd hw 33 rfl) (by decide) at_47 pd_3 rfl rfl rfl (side_OA l Z a0 hw n0 h O s_PC s_OA s_O s_UA s_U H) (Nat.le_of_ble_eq_true rfl) (Nat.le_of_ble_eq_true rfl) (Nat.le_of_ble_eq_true rfl) (Nat.le_of_ble_eq_true rfl) rfl rfl rfl (fun v389 h388 q390 => ?_)
      obtain ⟨rfl, eh388⟩ := q390
      subst h388
      show G w _ h 0 0 50 #[.val (.int p0), .val (.int p1), .val (.ref s_O), .val (.ref s_OA), .unset] [(.int (2 : Int32))]
      refine g_aloadN C (pc' := 51) at_50 rfl rfl rfl ?_
      refine g_callS C (pc' := 54) (k' := 0) (n' := 0) (argsL := [(.ref s_O)]) (rest := [(.int (2 : Int32))]) (wd hw 31 rfl) (wd hw 32 rfl) (wd hw 2 rfl) (wd hw 33 rfl) (by decide) at_51 pd_3 rfl rfl rfl (side_O l Z a0 hw n0 h O s_PC s_OA s_O s_UA s_U H) (Nat.le_of_ble_eq_true rfl) (Nat.le_of_ble_eq_true rfl) (Nat.le_of_ble_eq_true rfl) (Nat.le_of_ble_eq_true rfl) rfl rfl rfl (fun v392 h391 q393 => ?_)
      obtain ⟨rfl, eh391⟩ := q393
      subst h391
      show G w _ h 0 0 54 #[.val (.int p0), .val (.int p1), .val (.ref s_O), .val (.ref s_OA), .unset] [(.int (2 : Int32)), (.int (2 : Int32))]
      refine g_icN C (pc' := 57) at_54 rfl (by decide) rfl ?_
      refine g_iconst C (pc' := 58) (v := (1 : Int32)) at_57 (by decide) rfl ?_
      refine g_goto C (pc' := 62) at_58 (by decide) rfl ?_
      refine g_istore C (pc' := 64) (Ls' := #[.val (.int p0), .val (.int p1), .val (.ref s_O), .val (.ref s_OA), .val (.int (1 : Int32))]) at_62 rfl rfl rfl ?_
      refine g_aloadN C (pc' := 65) at_64 rfl rfl rfl ?_
      refine g_aloadN C (pc' := 66) at_65 rfl rfl rfl ?_
      refine g_virtual C (pc' := 69) (k' := 0) (n' := 0) (argsL := [(.ref s_OA)]) (rest := []) (wd hw 10 rfl) (wd hw 11 rfl) (nfSel (wd hw 13 rfl)) (wd hw 13 rfl) (wd hw 12 rfl) (wd hw 6 rfl) (wd hw 14 rfl) (by decide) at_66 pd_1 rfl rfl rfl (E_O.ext O.2) (may_O_OA l Z a0 hw n0 h O s_PC s_OA s_O s_UA s_U H) (Nat.le_of_ble_eq_true rfl) (Nat.le_of_ble_eq_true rfl) (Nat.le_of_ble_eq_true rfl) (Nat.le_of_ble_eq_true rfl) rfl rfl rfl (fun v395 h394 q396 => ?_)
      obtain ⟨rfl, eh394⟩ := q396
      subst h394
      show G w _ h 0 0 69 #[.val (.int p0), .val (.int p1), .val (.ref s_O), .val (.ref s_OA), .val (.int (1 : Int32))] [(.int (1 : Int32))]
      refine g_iload C (pc' := 71) at_69 rfl rfl ?_
      refine g_icN C (pc' := 74) at_71 rfl (by decide) rfl ?_
      refine g_iconst C (pc' := 75) (v := (1 : Int32)) at_74 (by decide) rfl ?_
      refine g_goto C (pc' := 79) at_75 (by decide) rfl ?_
      exact g_zreturn C at_79 rfl rfl (Nat.le_of_ble_eq_true rfl) (Nat.le_of_ble_eq_true rfl) (rfl)
    · refine g_iloadN C (pc' := 1) at_0 rfl rfl ?_
      refine g_callS C (pc' := 4) (k' := 0) (n' := 0) (argsL := [(.int p0)]) (rest := []) (wd hw 0 rfl) (wd hw 1 rfl) (wd hw 2 rfl) (wd hw 3 rfl) (by decide) at_1 pd_0 rfl rfl rfl (kind_O l Z a0 hw n0 h O s_PC s_OA s_O s_UA s_U H p0 e0) (Nat.le_of_ble_eq_true rfl) (Nat.le_of_ble_eq_true rfl) (Nat.le_of_ble_eq_true rfl) (Nat.le_of_ble_eq_true rfl) rfl rfl rfl (fun v398 h397 q399 => ?_)
      obtain ⟨rfl, eh397⟩ := q399
      subst h397
      show G w _ h 0 0 4 #[.val (.int p0), .val (.int p1), .unset, .unset, .unset] [(.ref s_O)]
      refine g_astoreN C (pc' := 5) (Ls' := #[.val (.int p0), .val (.int p1), .val (.ref s_O), .unset, .unset]) at_4 rfl rfl rfl rfl ?_
      refine g_iloadN C (pc' := 6) at_5 rfl rfl ?_
      refine g_callS C (pc' := 9) (k' := 0) (n' := 0) (argsL := [(.int p1)]) (rest := []) (wd hw 0 rfl) (wd hw 1 rfl) (wd hw 2 rfl) (wd hw 3 rfl) (by decide) at_6 pd_0 rfl rfl rfl (kind_O l Z a0 hw n0 h O s_PC s_OA s_O s_UA s_U H p1 e1) (Nat.le_of_ble_eq_true rfl) (Nat.le_of_ble_eq_true rfl) (Nat.le_of_ble_eq_true rfl) (Nat.le_of_ble_eq_true rfl) rfl rfl rfl (fun v401 h400 q402 => ?_)
      obtain ⟨rfl, eh400⟩ := q402
      subst h400
      show G w _ h 0 0 9 #[.val (.int p0), .val (.int p1), .val (.ref s_O), .unset, .unset] [(.ref s_O)]
      refine g_astoreN C (pc' := 10) (Ls' := #[.val (.int p0), .val (.int p1), .val (.ref s_O), .val (.ref s_O), .unset]) at_9 rfl rfl rfl rfl ?_
      refine g_aloadN C (pc' := 11) at_10 rfl rfl rfl ?_
      refine g_getS C (pc' := 14) (wd hw 5 rfl) Via.refl at_11 (S_PC.ext O.2) rfl ?_
      refine g_acmp C (pc' := 23) (same := false) at_14 rfl rfl rfl (decide_eq_false fun q => (Ne.symm (Fld.ne F_PC_ordinal F_O_ordinal (own_ine (by decide)))) (Value.ref.inj q)) (by decide) (by decide) ?_
      refine g_aloadN C (pc' := 24) at_23 rfl rfl rfl ?_
      refine g_getS C (pc' := 27) (wd hw 5 rfl) Via.refl at_24 (S_PC.ext O.2) rfl ?_
      refine g_acmp C (pc' := 39) (same := false) at_27 rfl rfl rfl (decide_eq_false fun q => (Ne.symm (Fld.ne F_PC_ordinal F_O_ordinal (own_ine (by decide)))) (Value.ref.inj q)) (by decide) (by decide) ?_
      refine g_aloadN C (pc' := 40) at_39 rfl rfl rfl ?_
      refine g_callS C (pc' := 43) (k' := 0) (n' := 0) (argsL := [(.ref s_O)]) (rest := []) (wd hw 28 rfl) (wd hw 29 rfl) (wd hw 2 rfl) (wd hw 30 rfl) (by decide) at_40 pd_1 rfl rfl rfl (isA_O l Z a0 hw n0 h O s_PC s_OA s_O s_UA s_U H) (Nat.le_of_ble_eq_true rfl) (Nat.le_of_ble_eq_true rfl) (Nat.le_of_ble_eq_true rfl) (Nat.le_of_ble_eq_true rfl) rfl rfl rfl (fun v404 h403 q405 => ?_)
      obtain ⟨rfl, eh403⟩ := q405
      subst h403
      show G w _ h 0 0 43 #[.val (.int p0), .val (.int p1), .val (.ref s_O), .val (.ref s_O), .unset] [(.int (0 : Int32))]
      refine g_ifY C (pc' := 61) at_43 rfl (by decide) (by decide) rfl ?_
      refine g_iconst C (pc' := 62) (v := (0 : Int32)) at_61 (by decide) rfl ?_
      refine g_istore C (pc' := 64) (Ls' := #[.val (.int p0), .val (.int p1), .val (.ref s_O), .val (.ref s_O), .val (.int (0 : Int32))]) at_62 rfl rfl rfl ?_
      refine g_aloadN C (pc' := 65) at_64 rfl rfl rfl ?_
      refine g_aloadN C (pc' := 66) at_65 rfl rfl rfl ?_
      refine g_virtual C (pc' := 69) (k' := 0) (n' := 0) (argsL := [(.ref s_O)]) (rest := []) (wd hw 10 rfl) (wd hw 11 rfl) (nfSel (wd hw 13 rfl)) (wd hw 13 rfl) (wd hw 12 rfl) (wd hw 6 rfl) (wd hw 14 rfl) (by decide) at_66 pd_1 rfl rfl rfl (E_O.ext O.2) (may_O_O l Z a0 hw n0 h O s_PC s_OA s_O s_UA s_U H) (Nat.le_of_ble_eq_true rfl) (Nat.le_of_ble_eq_true rfl) (Nat.le_of_ble_eq_true rfl) (Nat.le_of_ble_eq_true rfl) rfl rfl rfl (fun v407 h406 q408 => ?_)
      obtain ⟨rfl, eh406⟩ := q408
      subst h406
      show G w _ h 0 0 69 #[.val (.int p0), .val (.int p1), .val (.ref s_O), .val (.ref s_O), .val (.int (0 : Int32))] [(.int (0 : Int32))]
      refine g_iload C (pc' := 71) at_69 rfl rfl ?_
      refine g_icN C (pc' := 74) at_71 rfl (by decide) rfl ?_
      refine g_iconst C (pc' := 75) (v := (1 : Int32)) at_74 (by decide) rfl ?_
      refine g_goto C (pc' := 79) at_75 (by decide) rfl ?_
      exact g_zreturn C at_79 rfl rfl (Nat.le_of_ble_eq_true rfl) (Nat.le_of_ble_eq_true rfl) (rfl)
set_option maxRecDepth 65536 in
set_option maxHeartbeats 40000000 in
theorem comes_1 {Post : Tables → Env → Array Value → State → Outcome → State → Prop} (hpost : ∀ tb e args s v u, (limb_1_1.after args s (.returned v) u = true ∧ limb_1_2.after args s (.returned v) u = true ∧ True) → FrameEnd s (.returned v) u (Jvm.fieldLocs frame_1_writes args s ++ Jvm.arrayLocs frame_1_arrays args s ++ Jvm.staticLocs frame_1_statics s) 0 0 → Post tb e args s (.returned v) u) :
    ArmFor flags0 classFile x code maxLocals ret World_1 tables_1 room_1 Calls_1 rest_1 Pre_1 Post := by
  intro l hfl _ _ p e ha hc hk s m args below hf hA hF happ hP
  obtain ⟨hcalls, hrest, hpre⟩ := hP
  obtain ⟨-, -, -, hnamed, -, -, -, hat⟩ := (Spec.applies_iff hf).mp happ
  obtain ⟨hg, hn⟩ := and_e (Cond.before_iff.mp (show (Jvm.Cond.and given_1 narrow_1).before args s = true from hpre))
  obtain ⟨hga, hgb⟩ := and_e hg
  obtain ⟨hgba, hgbb⟩ := and_e hgb
  obtain ⟨w0, w1, rfl⟩ : ∃ w0 w1 : Value, args = #[w0, w1] := by
    have hs : args.size = 2 := by simpa [Cond.value, given_1] using hga
    obtain ⟨L⟩ := args
    match L, hs with
    | [w0, w1], _ => exact ⟨w0, w1, rfl⟩
  have hw := fun d (hd : d ∈ tables_1) => atoms_spec (ws := Jvm.Cond.code x code maxLocals ret :: tables_1) hat d (List.mem_cons_of_mem _ hd)
  have hfit : Fit s := fun {y c} hc i hi => by
    obtain ⟨ha, rfl⟩ := Array.getElem?_eq_some_iff.mp hc
    have q := List.all_eq_true.mp ((Array.all_eq_true_iff_forall_mem.mp hF) _ (Array.getElem_mem ha)) i (List.mem_range.mpr hi)
    simpa [Array.getElem?_eq_getElem hi] using q
  obtain ⟨i0, ei0⟩ := is_v hgba
  obtain rfl : w0 = (.int i0) := Option.some.inj ei0
  obtain ⟨i1, ei1⟩ := is_v hgbb
  obtain rfl : w1 = (.int i1) := Option.some.inj ei1
  obtain ⟨hna, hnb⟩ := and_e hn
  obtain ⟨hnba, hnbb⟩ := and_e hnb
  obtain ⟨hnbba, hnbbb⟩ := and_e hnbb
  obtain ⟨hnbbba, hnbbbb⟩ := and_e hnbbb
  obtain ⟨hnbbbba, hnbbbbb⟩ := and_e hnbbbb
  obtain ⟨hnbbbbba, hnbbbbbb⟩ := and_e hnbbbbb
  obtain ⟨hnbbbbbba, hnbbbbbbb⟩ := and_e hnbbbbbb
  obtain ⟨hnbbbbbbba, hnbbbbbbbb⟩ := and_e hnbbbbbbb
  obtain ⟨hnbbbbbbbba, hnbbbbbbbbb⟩ := and_e hnbbbbbbbb
  obtain ⟨s_PC, ev_PC⟩ := exa_v hna
  have S_PC := Sta.start ev_PC (Or.inr ⟨(wd hw 6 rfl), (wd hw 7 rfl)⟩)
  have E_PC := Exa.start ev_PC hna
  obtain ⟨s_OA, ev_OA⟩ := exa_v hnba
  have S_OA := Sta.start ev_OA (Or.inr ⟨(wd hw 6 rfl), (wd hw 9 rfl)⟩)
  have E_OA := Exa.start ev_OA hnba
  obtain ⟨s_O, ev_O⟩ := exa_v hnbbba
  have S_O := Sta.start ev_O (Or.inr ⟨(wd hw 6 rfl), (wd hw 25 rfl)⟩)
  have E_O := Exa.start ev_O hnbbba
  obtain ⟨s_UA, ev_UA⟩ := exa_v hnbbbba
  have S_UA := Sta.start ev_UA (Or.inr ⟨(wd hw 6 rfl), (wd hw 27 rfl)⟩)
  have E_UA := Exa.start ev_UA hnbbbba
  obtain ⟨s_U, ev_U⟩ := exa_v hnbbbbbbba
  have S_U := Sta.start ev_U (Or.inr ⟨(wd hw 6 rfl), (wd hw 35 rfl)⟩)
  have E_U := Exa.start ev_U hnbbbbbbba
  have F_PC_ordinal := own_fldInt ev_PC hnbba
  have F_O_ordinal := own_fldInt ev_O hnbbbbba
  have F_UA_ordinal := own_fldInt ev_UA hnbbbbbba
  have F_U_ordinal := own_fldInt ev_U hnbbbbbbbba
  have F_OA_ordinal := own_fldInt ev_OA hnbbbbbbbbb
  have H : En s s_PC s_OA s_O s_UA s_U := ⟨S_PC, E_PC, S_OA, E_OA, S_O, E_O, S_UA, E_UA, S_U, E_U, F_PC_ordinal, F_O_ordinal, F_UA_ordinal, F_U_ordinal, F_OA_ordinal⟩
  obtain ⟨n, o, h1, h2, h3, _, L, rfl, ⟨rfl, N⟩, hq⟩ := rm0 l s _ hw s.heap.size s.heap (Old.start s) s_PC s_OA s_O s_UA s_U H i0 i1  tables_1 p e ha hc hk s m _ below hf ((Spec.applies_iff_loose hf).mp happ).1 ⟨rfl, State.Warmed39.refl s, rfl⟩ trivial
  refine ⟨n, _, h1, h2, h3, hpost _ _ _ _ _ _ ⟨Cond.after_iff.mpr rfl, Cond.after_iff.mpr (eq_i res_at (Term.int_eval (1)) rfl), trivial⟩ ⟨hq.1, hq.2.1, (hq.2.2.sift fun y hy => Or.inr (N y hy)).mono (by decide) (by decide)⟩⟩
theorem main_1_1 : Claimed_1_1 := comes_1 fun _ _ _ _ _ _ h hF => ⟨h.1, hF⟩
theorem main_1_2 : Claimed_1_2 := comes_1 fun _ _ _ _ _ _ h hF => ⟨h.2.1, hF⟩
end Jvm.Pilot.@@N@@
namespace Jvm.Pilot.@@N@@
open Jvm Jvm.ClassFile Sem Op Lib Jvm.Free Jvm.Stand Jvm.Pilot.@@N@@.Jvm.D
/-! MADE BY PROGRAM (witnessworld.py) out of the Statement's table words and the real class files: 12 classes; the members and pool entries that the words name. The judged class is class 1, her method 4. -/
namespace start1
open Jvm.ClassFile
def u (s : String) : CpInfo := .utf8 (stringToUtf16 s)
/-- a pool by its gaps: so many unusable entries, then the entry; so many at the end -/
def gap : Nat → List CpInfo → List CpInfo
  | 0, r => r
  | n + 1, r => .unusable :: gap n r
def poolList (es : List (Nat × CpInfo)) (last : Nat) : List CpInfo := es.foldr (fun e r => gap e.1 (e.2 :: r)) (gap last [])
def pool (es : List (Nat × CpInfo)) (last : Nat) : Array CpInfo := ⟨poolList es last⟩
def fileOf (pool : Array CpInfo) (this : Nat) (attrs : Array Attribute := #[]) (ms : Array MethodInfo := #[]) (fl : Nat := 33) (sup : Nat := 0) (ifs : Array Nat := #[]) (fds : Array FieldInfo := #[]) : ClassFile where
  minorVersion := 0
  majorVersion := 65
  constantPool := pool
  accessFlags := fl
  thisClass := this
  superClass := sup
  interfaces := ifs
  fields := fds
  methods := ms
  attributes := attrs
def plain (name : String) (sup : Option ClassId) : Class where
  name := name
  kind := .ordinary
  loader := none
  accessFlags := 33
  super := sup
  interfaces := #[]
  cf := none
  fields := #[]
  methods := #[]
  instanceTypes := #[]
  staticTypes := #[]
  resolved := #[]
  callSites := []
  init := .initialized
  statics := none
  mirror := none

def pool0 : Array CpInfo := pool [(5, u "<init>"), (0, u "()V"), (1, .class_ 10), (1, u "java/lang/Object")] 113

def k0m0 : Method := { name := "<init>", desc := "()V", sig := { parameters := [], returnType := none }, accessFlags := 1, code := none }
/-- java/lang/Object -/
def k0 : Class := { plain "java/lang/Object" none with
  accessFlags := 33
  interfaces := #[]
  cf := some (fileOf pool0 8 #[] #[{ accessFlags := 1, nameIndex := 5, descriptorIndex := 6, attributes := #[] }] 33 0 #[] #[])
  fields := #[]
  methods := #[k0m0]
  instanceTypes := #[]
  staticTypes := #[]
  resolved := Array.replicate 124 none
  statics := none }

def pool1 : Array CpInfo := pool [(2, .class_ 4), (1, u "java/lang/Object"), (0, u "<init>"), (0, u "()V"), (0, .integer 2147483647), (0, .fieldref 9 10), (0, .class_ 11), (0, .nameAndType 12 13), (0, u "com/example/honeyguide/honeyguide/NodeKind"), (0, u "PC"), (0, u "Lcom/example/honeyguide/honeyguide/NodeKind;"), (0, .fieldref 9 15), (0, .nameAndType 16 13), (0, u "UA"), (0, .fieldref 9 18), (0, .nameAndType 19 13), (0, u "U"), (0, .fieldref 9 21), (0, .nameAndType 22 13), (0, u "OA"), (0, .fieldref 9 24), (0, .nameAndType 25 13), (0, u "O"), (0, .methodref 27 28), (0, .class_ 29), (0, .nameAndType 30 31), (0, u "com/example/honeyguide/honeyguide/NodeKindMayBeAssignedToPinLaw"), (0, u "kind"), (0, u "(I)Lcom/example/honeyguide/honeyguide/NodeKind;"), (0, .methodref 27 33), (0, .nameAndType 34 35), (0, u "isAttribute"), (0, u "(Lcom/example/honeyguide/honeyguide/NodeKind;)Z"), (0, .methodref 27 37), (0, .nameAndType 38 39), (0, u "side"), (0, u "(Lcom/example/honeyguide/honeyguide/NodeKind;)I"), (0, .methodref 9 41), (0, .nameAndType 42 35), (0, u "mayBeAssignedTo"), (3, u "law"), (0, u "(II)Z")] 2

def k1m0 : Method := { name := "<init>", desc := "()V", sig := { parameters := [], returnType := none }, accessFlags := 1, code := none }
def k1c1 : Code := { maxStack := 2, maxLocals := 2, code := method_2_code, exceptionTable := #[], attributes := #[] }
def k1m1 : Method := { name := "kind", desc := "(I)Lcom/example/honeyguide/honeyguide/NodeKind;", sig := { parameters := [.int], returnType := some (.object "com/example/honeyguide/honeyguide/NodeKind") }, accessFlags := 10, code := some k1c1 }
def k1c2 : Code := { maxStack := 2, maxLocals := 1, code := method_3_code, exceptionTable := #[], attributes := #[] }
def k1m2 : Method := { name := "side", desc := "(Lcom/example/honeyguide/honeyguide/NodeKind;)I", sig := { parameters := [(.object "com/example/honeyguide/honeyguide/NodeKind")], returnType := some .int }, accessFlags := 10, code := some k1c2 }
def k1c3 : Code := { maxStack := 2, maxLocals := 1, code := method_4_code, exceptionTable := #[], attributes := #[] }
def k1m3 : Method := { name := "isAttribute", desc := "(Lcom/example/honeyguide/honeyguide/NodeKind;)Z", sig := { parameters := [(.object "com/example/honeyguide/honeyguide/NodeKind")], returnType := some .boolean }, accessFlags := 10, code := some k1c3 }
def k1c4 : Code := { maxStack := 2, maxLocals := 5, code := code, exceptionTable := #[], attributes := #[] }
def k1m4 : Method := { name := "law", desc := "(II)Z", sig := { parameters := [.int, .int], returnType := some .boolean }, accessFlags := 9, code := some k1c4 }
/-- com/example/honeyguide/honeyguide/NodeKindMayBeAssignedToPinLaw -/
def k1 : Class := { plain "com/example/honeyguide/honeyguide/NodeKindMayBeAssignedToPinLaw" (some 0) with
  accessFlags := 49
  interfaces := #[]
  cf := some (fileOf pool1 27 #[] #[{ accessFlags := 1, nameIndex := 5, descriptorIndex := 6, attributes := #[] }, { accessFlags := 10, nameIndex := 30, descriptorIndex := 31, attributes := #[] }, { accessFlags := 10, nameIndex := 38, descriptorIndex := 39, attributes := #[] }, { accessFlags := 10, nameIndex := 34, descriptorIndex := 35, attributes := #[] }, { accessFlags := 9, nameIndex := 46, descriptorIndex := 47, attributes := #[] }] 49 2 #[] #[])
  fields := #[]
  methods := #[k1m0, k1m1, k1m2, k1m3, k1m4]
  instanceTypes := #[]
  staticTypes := #[]
  resolved := Array.replicate 50 none
  statics := none }

def pool2 : Array CpInfo := pool [(1, .class_ 2), (0, u "java/lang/constant/Constable"), (0, .class_ 4), (0, u "java/lang/Object")] 6

/-- java/lang/constant/Constable -/
def k2 : Class := { plain "java/lang/constant/Constable" (some 0) with
  accessFlags := 1537
  interfaces := #[]
  cf := some (fileOf pool2 1 #[] #[] 1537 3 #[] #[])
  fields := #[]
  methods := #[]
  instanceTypes := #[]
  staticTypes := #[]
  resolved := Array.replicate 11 none
  statics := none }

def pool3 : Array CpInfo := pool [(1, .class_ 2), (0, u "java/lang/Comparable"), (0, .class_ 4), (0, u "java/lang/Object")] 7

/-- java/lang/Comparable -/
def k3 : Class := { plain "java/lang/Comparable" (some 0) with
  accessFlags := 1537
  interfaces := #[]
  cf := some (fileOf pool3 1 #[] #[] 1537 3 #[] #[])
  fields := #[]
  methods := #[]
  instanceTypes := #[]
  staticTypes := #[]
  resolved := Array.replicate 12 none
  statics := none }

def pool4 : Array CpInfo := pool [(1, .class_ 2), (0, u "java/io/Serializable"), (0, .class_ 4), (0, u "java/lang/Object")] 2

/-- java/io/Serializable -/
def k4 : Class := { plain "java/io/Serializable" (some 0) with
  accessFlags := 1537
  interfaces := #[]
  cf := some (fileOf pool4 1 #[] #[] 1537 3 #[] #[])
  fields := #[]
  methods := #[]
  instanceTypes := #[]
  staticTypes := #[]
  resolved := Array.replicate 7 none
  statics := none }

def pool5 : Array CpInfo := pool [(2, .class_ 4), (1, u "java/lang/Enum"), (0, u "name"), (0, u "Ljava/lang/String;"), (0, .fieldref 2 8), (0, .nameAndType 9 10), (0, u "ordinal"), (0, u "I"), (1, .class_ 14), (1, u "java/lang/Object"), (4, u "hash"), (86, .class_ 108), (1, u "java/lang/Enum$EnumDesc"), (2, .class_ 112), (0, u "java/lang/constant/Constable"), (0, .class_ 114), (0, u "java/lang/Comparable"), (0, .class_ 116), (0, u "java/io/Serializable"), (9, u "()I")] 77

def k5c0 : Code := { maxStack := 1, maxLocals := 1, code := jdk_37_method_2_code, exceptionTable := #[], attributes := #[] }
def k5m0 : Method := { name := "ordinal", desc := "()I", sig := { parameters := [], returnType := some .int }, accessFlags := 17, code := some k5c0 }
/-- java/lang/Enum -/
def k5 : Class := { plain "java/lang/Enum" (some 0) with
  accessFlags := 1057
  interfaces := #[2, 3, 4]
  cf := some (fileOf pool5 2 #[.nestMembers #[106]] #[{ accessFlags := 17, nameIndex := 9, descriptorIndex := 126, attributes := #[] }] 1057 12 #[111, 113, 115] #[{ accessFlags := 18, nameIndex := 5, descriptorIndex := 6, attributes := #[] }, { accessFlags := 18, nameIndex := 9, descriptorIndex := 10, attributes := #[] }, { accessFlags := 2, nameIndex := 19, descriptorIndex := 10, attributes := #[] }])
  fields := #[{ name := "name", type := (.object "java/lang/String"), accessFlags := 18, slot := 0, constantValue := 0 }, { name := "ordinal", type := .int, accessFlags := 18, slot := 1, constantValue := 0 }, { name := "hash", type := .int, accessFlags := 2, slot := 2, constantValue := 0 }]
  methods := #[k5m0]
  instanceTypes := #[(.object "java/lang/String"), .int, .int]
  staticTypes := #[]
  resolved := Array.replicate 204 none
  statics := none }

def pool6 : Array CpInfo := pool [(1, .class_ 2), (0, u "com/example/honeyguide/honeyguide/NodeKind"), (0, .fieldref 1 4), (0, .nameAndType 5 6), (0, u "PC"), (0, u "Lcom/example/honeyguide/honeyguide/NodeKind;"), (0, .fieldref 1 8), (0, .nameAndType 9 6), (0, u "UA"), (2, u "U"), (0, .fieldref 1 14), (0, .nameAndType 15 6), (0, u "OA"), (2, u "O"), (2, u "$VALUES"), (0, u "[Lcom/example/honeyguide/honeyguide/NodeKind;"), (6, .class_ 31), (1, u "java/lang/Enum"), (6, .methodref 1 39), (0, .nameAndType 40 41), (0, u "ordinal"), (0, u "()I"), (38, u "mayBeAssignedTo"), (0, u "(Lcom/example/honeyguide/honeyguide/NodeKind;)Z")] 24

def k6c0 : Code := { maxStack := 4, maxLocals := 2, code := prog_6_method_4_code, exceptionTable := #[], attributes := #[] }
def k6m0 : Method := { name := "mayBeAssignedTo", desc := "(Lcom/example/honeyguide/honeyguide/NodeKind;)Z", sig := { parameters := [(.object "com/example/honeyguide/honeyguide/NodeKind")], returnType := some .boolean }, accessFlags := 0, code := some k6c0 }
/-- com/example/honeyguide/honeyguide/NodeKind -/
def k6 : Class := { plain "com/example/honeyguide/honeyguide/NodeKind" (some 5) with
  accessFlags := 16432
  interfaces := #[]
  cf := some (fileOf pool6 1 #[] #[{ accessFlags := 0, nameIndex := 80, descriptorIndex := 81, attributes := #[] }] 16432 29 #[] #[{ accessFlags := 16409, nameIndex := 5, descriptorIndex := 6, attributes := #[] }, { accessFlags := 16409, nameIndex := 9, descriptorIndex := 6, attributes := #[] }, { accessFlags := 16409, nameIndex := 12, descriptorIndex := 6, attributes := #[] }, { accessFlags := 16409, nameIndex := 15, descriptorIndex := 6, attributes := #[] }, { accessFlags := 16409, nameIndex := 18, descriptorIndex := 6, attributes := #[] }, { accessFlags := 4122, nameIndex := 21, descriptorIndex := 22, attributes := #[] }])
  fields := #[{ name := "PC", type := (.object "com/example/honeyguide/honeyguide/NodeKind"), accessFlags := 16409, slot := 0, constantValue := 0 }, { name := "UA", type := (.object "com/example/honeyguide/honeyguide/NodeKind"), accessFlags := 16409, slot := 1, constantValue := 0 }, { name := "U", type := (.object "com/example/honeyguide/honeyguide/NodeKind"), accessFlags := 16409, slot := 2, constantValue := 0 }, { name := "OA", type := (.object "com/example/honeyguide/honeyguide/NodeKind"), accessFlags := 16409, slot := 3, constantValue := 0 }, { name := "O", type := (.object "com/example/honeyguide/honeyguide/NodeKind"), accessFlags := 16409, slot := 4, constantValue := 0 }, { name := "$VALUES", type := (.array (.object "com/example/honeyguide/honeyguide/NodeKind")), accessFlags := 4122, slot := 5, constantValue := 0 }]
  methods := #[k6m0]
  instanceTypes := #[(.object "java/lang/String"), .int, .int]
  staticTypes := #[(.object "com/example/honeyguide/honeyguide/NodeKind"), (.object "com/example/honeyguide/honeyguide/NodeKind"), (.object "com/example/honeyguide/honeyguide/NodeKind"), (.object "com/example/honeyguide/honeyguide/NodeKind"), (.object "com/example/honeyguide/honeyguide/NodeKind"), (.array (.object "com/example/honeyguide/honeyguide/NodeKind"))]
  resolved := Array.replicate 106 none
  statics := some 0 }

def pool7 : Array CpInfo := pool [(1, u "java/lang/Cloneable"), (0, .class_ 1), (0, u "java/lang/Object"), (0, .class_ 3)] 3

/-- java/lang/Cloneable -/
def k7 : Class := { plain "java/lang/Cloneable" (some 0) with
  accessFlags := 1537
  interfaces := #[]
  cf := some (fileOf pool7 2 #[] #[] 1537 4 #[] #[])
  fields := #[]
  methods := #[]
  instanceTypes := #[]
  staticTypes := #[]
  resolved := Array.replicate 8 none
  statics := none }

/-- the primitive byte -/
def k8 : Class := { plain "byte" none with kind := .primitive 'B', accessFlags := 0x411 }
/-- [B -/
def k9 : Class := { plain "[B" (some 0) with kind := .array 8 .byte, interfaces := #[7, 4], accessFlags := 1041 }

/-- the primitive int -/
def k10 : Class := { plain "int" none with kind := .primitive 'I', accessFlags := 0x411 }
/-- [I -/
def k11 : Class := { plain "[I" (some 0) with kind := .array 10 .int, interfaces := #[7, 4], accessFlags := 1041 }

def heap : Heap := #[{ cls := 6, slots := #[.ref 1, .ref 4, .ref 5, .ref 2, .ref 3, .null], vm := .statics 6 },
  { cls := 6, slots := #[.null, .int 0, .int 0], vm := .none },
  { cls := 6, slots := #[.null, .int 3, .int 0], vm := .none },
  { cls := 6, slots := #[.null, .int 4, .int 0], vm := .none },
  { cls := 6, slots := #[.null, .int 1, .int 0], vm := .none },
  { cls := 6, slots := #[.null, .int 2, .int 0], vm := .none }]
def classes : Array Class := #[k0, k1, k2, k3, k4, k5, k6, k7, k8, k9, k10, k11]
def interned : List (Array UInt16 × Addr) := []
def slotsUsed : Nat := 21
def theMethod : MethodId := ⟨1, 4⟩
def args0 : Array Value := #[.int 5, .int 1]
def aboutOver (below : List Frame) : State where
  vm := { classes := classes, interned := interned.toArray }
  heap := heap
  slotsUsed := slotsUsed
  threads := #[{ frames := .invoking theMethod args0 :: below }]
def below0 : List Frame := [.native { method := ⟨0, 0⟩, args := #[] }]
def about1 : State := aboutOver below0
def p0 : Program := .bare "" "" ""
def e0 : Env := launch0.env 0 0 0
theorem w_frames : about1.frames = Frame.invoking theMethod args0 :: below0 := rfl
set_option maxRecDepth 65536 in
theorem w_args : argsFit about1.vm theMethod args0 = true := by decide +kernel
set_option maxRecDepth 65536 in
theorem w_heap : heapFits about1 = true := by decide +kernel
set_option maxRecDepth 65536 in
theorem w_runnable : about1.curStatus? = some .runnable := by decide +kernel
set_option maxRecDepth 65536 in
theorem w_alone : about1.alone = true := by decide +kernel
set_option maxRecDepth 65536 in
theorem w_named : about1.methodNamed? x = some theMethod := by decide +kernel
set_option maxRecDepth 65536 in
theorem w_hears : about1.hears theMethod below0 = true := by decide +kernel
set_option maxRecDepth 65536 in
theorem w_ripe : about1.ripe theMethod args0 below0 = true := by decide +kernel
theorem w_running : about1.status = .running := rfl
set_option maxRecDepth 65536 in
theorem w_room : about1.hasRoom e0.platform room_1 = true :=
  launch0.hasRoom_least _ room_1 (by decide +kernel) (by decide +kernel) (by decide +kernel) (by decide +kernel) (by decide +kernel) (by decide +kernel)
theorem allAtoms_all (ts : List Jvm.Cond) (a : Array Jvm.Value) (st : Jvm.State) : (allAtoms ts).before a st = ts.all (fun c => c.before a st) := by
  induction ts with
  | nil => rfl
  | cons c t ih =>
    show (Jvm.Cond.and c (allAtoms t)).before a st = _
    rw [Jvm.Cond.before_and, ih, List.all_cons]
def words1 : List Jvm.Cond := Jvm.Cond.code x code maxLocals ret :: tables_1
/-- a 'code' word, met by the world's own term for the bytes: nothing is compared byte by byte -/
theorem code_word {y : MethodName} {bytes : ByteArray} {mx : Nat} {rt : Option FieldType} {a : Array Value} {s : State} {m : MethodId} {meth : Method} {c : Code} (h1 : s.methodNamed? y = some m) (h2 : s.vm.method? m = some meth) (h3 : meth.code = some c) (h4 : c.code = bytes)
    (h5 : (c.maxLocals == mx && c.exceptionTable.isEmpty && decide (c.maxStack ≤ mostOperands) && decide (meth.sig.returnType = rt) && !meth.locks && decide (parseMethodDescriptor y.desc = some meth.sig)) = true) : (Jvm.Cond.code y bytes mx rt).before a s = true := by
  simp only [Bool.and_eq_true, beq_iff_eq, Bool.not_eq_true', decide_eq_true_eq] at h5
  obtain ⟨⟨⟨⟨⟨g1, g2⟩, g3⟩, g4⟩, g5⟩, g6⟩ := h5
  simp [Cond.before, Cond.holds, Cond.value, h1, h2, h3, h4, g1, g2, g3, g4, g5, g6]
def isCode : Jvm.Cond → Bool
  | .code _ _ _ _ => true
  | _ => false
theorem all_split {L : List Jvm.Cond} {P : Jvm.Cond → Bool} (h1 : L.all (fun c => isCode c || P c) = true) (h2 : ∀ c ∈ L.filter isCode, P c = true) : L.all P = true := by
  refine List.all_eq_true.mpr fun c hc => ?_
  have h := List.all_eq_true.mp h1 c hc
  rcases Bool.eq_false_or_eq_true (isCode c) with hi | hi
  · exact h2 c (List.mem_filter.mpr ⟨hc, hi⟩)
  · simpa [hi] using h
set_option maxRecDepth 65536 in
theorem w_c0 : (Jvm.Cond.code x code maxLocals ret).before args0 about1 = true := code_word (m := ⟨1, 4⟩) (meth := k1m4) (c := k1c4) (by decide +kernel) rfl rfl rfl (by decide +kernel)
set_option maxRecDepth 65536 in
theorem w_c1 : (Jvm.Cond.code ({ cls := "com/example/honeyguide/honeyguide/NodeKindMayBeAssignedToPinLaw", name := "kind", desc := "(I)Lcom/example/honeyguide/honeyguide/NodeKind;" } : Jvm.MethodName) method_2_code (2 : Nat) (Option.some (Jvm.ClassFile.FieldType.object "com/example/honeyguide/honeyguide/NodeKind"))).before args0 about1 = true := code_word (m := ⟨1, 1⟩) (meth := k1m1) (c := k1c1) (by decide +kernel) rfl rfl rfl (by decide +kernel)
set_option maxRecDepth 65536 in
theorem w_c2 : (Jvm.Cond.code ({ cls := "com/example/honeyguide/honeyguide/NodeKind", name := "mayBeAssignedTo", desc := "(Lcom/example/honeyguide/honeyguide/NodeKind;)Z" } : Jvm.MethodName) prog_6_method_4_code (2 : Nat) (Option.some Jvm.ClassFile.FieldType.boolean)).before args0 about1 = true := code_word (m := ⟨6, 0⟩) (meth := k6m0) (c := k6c0) (by decide +kernel) rfl rfl rfl (by decide +kernel)
set_option maxRecDepth 65536 in
theorem w_c3 : (Jvm.Cond.code ({ cls := "java/lang/Enum", name := "ordinal", desc := "()I" } : Jvm.MethodName) jdk_37_method_2_code (1 : Nat) (Option.some Jvm.ClassFile.FieldType.int)).before args0 about1 = true := code_word (m := ⟨5, 0⟩) (meth := k5m0) (c := k5c0) (by decide +kernel) rfl rfl rfl (by decide +kernel)
set_option maxRecDepth 65536 in
theorem w_c4 : (Jvm.Cond.code ({ cls := "com/example/honeyguide/honeyguide/NodeKindMayBeAssignedToPinLaw", name := "isAttribute", desc := "(Lcom/example/honeyguide/honeyguide/NodeKind;)Z" } : Jvm.MethodName) method_4_code (1 : Nat) (Option.some Jvm.ClassFile.FieldType.boolean)).before args0 about1 = true := code_word (m := ⟨1, 3⟩) (meth := k1m3) (c := k1c3) (by decide +kernel) rfl rfl rfl (by decide +kernel)
set_option maxRecDepth 65536 in
theorem w_c5 : (Jvm.Cond.code ({ cls := "com/example/honeyguide/honeyguide/NodeKindMayBeAssignedToPinLaw", name := "side", desc := "(Lcom/example/honeyguide/honeyguide/NodeKind;)I" } : Jvm.MethodName) method_3_code (1 : Nat) (Option.some Jvm.ClassFile.FieldType.int)).before args0 about1 = true := code_word (m := ⟨1, 2⟩) (meth := k1m2) (c := k1c2) (by decide +kernel) rfl rfl rfl (by decide +kernel)
def codes1 : List Jvm.Cond := [Jvm.Cond.code x code maxLocals ret, Jvm.Cond.code ({ cls := "com/example/honeyguide/honeyguide/NodeKindMayBeAssignedToPinLaw", name := "kind", desc := "(I)Lcom/example/honeyguide/honeyguide/NodeKind;" } : Jvm.MethodName) method_2_code (2 : Nat) (Option.some (Jvm.ClassFile.FieldType.object "com/example/honeyguide/honeyguide/NodeKind")), Jvm.Cond.code ({ cls := "com/example/honeyguide/honeyguide/NodeKind", name := "mayBeAssignedTo", desc := "(Lcom/example/honeyguide/honeyguide/NodeKind;)Z" } : Jvm.MethodName) prog_6_method_4_code (2 : Nat) (Option.some Jvm.ClassFile.FieldType.boolean), Jvm.Cond.code ({ cls := "java/lang/Enum", name := "ordinal", desc := "()I" } : Jvm.MethodName) jdk_37_method_2_code (1 : Nat) (Option.some Jvm.ClassFile.FieldType.int), Jvm.Cond.code ({ cls := "com/example/honeyguide/honeyguide/NodeKindMayBeAssignedToPinLaw", name := "isAttribute", desc := "(Lcom/example/honeyguide/honeyguide/NodeKind;)Z" } : Jvm.MethodName) method_4_code (1 : Nat) (Option.some Jvm.ClassFile.FieldType.boolean), Jvm.Cond.code ({ cls := "com/example/honeyguide/honeyguide/NodeKindMayBeAssignedToPinLaw", name := "side", desc := "(Lcom/example/honeyguide/honeyguide/NodeKind;)I" } : Jvm.MethodName) method_3_code (1 : Nat) (Option.some Jvm.ClassFile.FieldType.int)]
set_option maxRecDepth 65536 in
theorem codes_eq : words1.filter isCode = codes1 := rfl
theorem w_codes : ∀ c ∈ words1.filter isCode, c.before args0 about1 = true := by
  rw [codes_eq]
  intro c hc
  simp only [codes1, List.mem_cons, List.not_mem_nil, or_false] at hc
  rcases hc with rfl | rfl | rfl | rfl | rfl | rfl
  · exact w_c0
  · exact w_c1
  · exact w_c2
  · exact w_c3
  · exact w_c4
  · exact w_c5
set_option maxRecDepth 65536 in
theorem w_t1 : (words1.take 24).all (fun c => isCode c || c.before args0 about1) = true := by decide +kernel
set_option maxRecDepth 65536 in
theorem w_t2 : (words1.drop 24).all (fun c => isCode c || c.before args0 about1) = true := by decide +kernel
theorem w_tables : (allAtoms (Jvm.Cond.code x code maxLocals ret :: tables_1)).before args0 about1 = true := by
  rw [allAtoms_all]
  show words1.all (fun c => c.before args0 about1) = true
  refine all_split ?_ w_codes
  rw [← List.take_append_drop 24 words1, List.all_append, w_t1, w_t2]
  rfl
set_option maxRecDepth 65536 in
theorem w_case : (Jvm.Cond.and given_1 narrow_1).before args0 about1 = true := by decide +kernel
theorem w_applies : (headSpec (Jvm.Cond.code x code maxLocals ret :: tables_1) room_1).applies x e0.platform about1 = true :=
  (Spec.applies_iff w_frames).mpr ⟨w_running, w_runnable, w_alone, w_named, w_hears, w_ripe, w_room, w_tables⟩
theorem atStart : AtStart classFile x code maxLocals ret World_1 tables_1 room_1 Calls_1 rest_1 Pre_1 launch0 p0 e0 about1 theMethod args0 below0 :=
  ⟨lists_1, trivial, launch0.admits_env _ _ _, launch0.least_env, fairChoices_fair.cas, fairChoices_fair.clock, w_frames, w_args, w_heap, w_applies, trivial, trivial, w_case⟩
end start1
theorem witness_1 : WitnessClaimed_1 := ⟨start1.p0, start1.e0, start1.about1, start1.theMethod, start1.args0, start1.below0, start1.atStart⟩
end Jvm.Pilot.@@N@@
