import JvmDerived
import JvmDerived.Pilot.@@N@@Statement
import JvmDerived.Pilot.@@N@@Code
set_option linter.unusedVariables false
set_option linter.unusedSimpArgs false
namespace Jvm.Pilot.@@N@@
open Jvm Jvm.ClassFile Sem Op Lib Jvm.Free Jvm.Stand Jvm.LawKit Jvm.RoadKit Bundle Jvm.Pilot.@@N@@.Jvm.D
/-! THE WALK, SAID FORWARD: `G w Q h k n pc Ls st` says: from every point of the walk `w` whose heap is h, with k cells and n slots made, standing at pc with the locals Ls and the stack st, the run ends in a return that meets Q. One law a step carries G from the next point back to this one. -/
abbrev Wk := Program × Launch × Env × Room × State × MethodId × Array Value × List Frame × Method × Code × Nat
abbrev Wk.p (w : Wk) : Program := w.1
abbrev Wk.l (w : Wk) : Launch := w.2.1
abbrev Wk.e (w : Wk) : Env := w.2.2.1
abbrev Wk.R (w : Wk) : Room := w.2.2.2.1
abbrev Wk.s (w : Wk) : State := w.2.2.2.2.1
abbrev Wk.m (w : Wk) : MethodId := w.2.2.2.2.2.1
abbrev Wk.args (w : Wk) : Array Value := w.2.2.2.2.2.2.1
abbrev Wk.below (w : Wk) : List Frame := w.2.2.2.2.2.2.2.1
abbrev Wk.meth (w : Wk) : Method := w.2.2.2.2.2.2.2.2.1
abbrev Wk.c (w : Wk) : Code := w.2.2.2.2.2.2.2.2.2.1
abbrev Wk.n0 (w : Wk) : Nat := w.2.2.2.2.2.2.2.2.2.2
def Cx (w : Wk) (l : Launch) (Z : State) (own : String) (bytes : ByteArray) (mx : Nat) (rt : Option FieldType) (nm : String) (rm : Room) (n0 : Nat) : Prop :=
  w.l = l ∧ w.p.tables.exec = Jvm.exec ∧ Z.Warmed39 w.s.vm ∧ w.c.code = bytes ∧ w.c.maxLocals = mx ∧ w.s.vm.findClass own = some w.m.cls ∧ w.meth.sig.returnType = rt ∧ w.meth.locks = false ∧ w.meth.name = nm ∧ w.R = rm ∧ w.n0 = n0
def Ends (w : Wk) (Q : Option Value → Heap → Prop) (A : State) : Prop :=
  ∃ s₂ o, Steps w.p.tables w.e w.below A s₂ ∧ s₂.status = .running ∧ Ended s₂ w.below o ∧ ∃ v L, o = .returned v ∧ (Q v s₂.heap ∧ Fr w.n0 L) ∧ FrameEnd w.s o s₂ L w.R.cells w.R.slots
def G (w : Wk) (Q : Option Value → Heap → Prop) (h : Heap) (k n pc : Nat) (Ls : Array Slot) (st : List Value) : Prop :=
  ∀ (T : State) (locs : List Loc), Stand w.p w.l w.e w.R w.s w.m w.args w.below w.meth w.c T locs k n → T.heap = h → Fr w.n0 locs → Ends w Q (T.setTop (mkF w.m pc Ls st))
def Con (l : Launch) (Z : State) (y : MethodName) (bytes : ByteArray) (mx : Nat) (rt : Option FieldType) (rm : Room) (as : Array Value) (h : Heap) (n0 : Nat) (Q : Option Value → Heap → Prop) : Prop :=
  ∀ ws, MetFree l y (head1 (Jvm.Cond.code y bytes mx rt :: ws) rm) (fun a U => a = as ∧ Z.Warmed39 U.vm ∧ U.heap = h) (fun _ _ _ _ _ => True) (fun _ U o U' => ∃ v L, o = .returned v ∧ (Q v U'.heap ∧ Fr n0 L) ∧ FrameEnd U o U' L rm.cells rm.slots)
def psh (v : Option Value) (st : List Value) : List Value := match v with | none => st | some x => x :: st
theorem psh_eq (v : Option Value) (st : List Value) : v.toList ++ st = psh v st := by cases v <;> rfl
section Gs
variable {w : Wk} {l : Launch} {Z : State} {own : String} {bytes : ByteArray} {mx : Nat} {rt : Option FieldType} {nm : String} {rm : Room} {n0 : Nat} {Q : Option Value → Heap → Prop} {h : Heap} {k n pc pc' : Nat} {Ls Ls' : Array Slot} {st rest : List Value} {a0 : Array Value} {t : FieldType} {k' n' : Nat}
theorem Con.mk {y : MethodName} {as : Array Value} (hp : plainFor y = true) (hef : ∀ m, entryFrame m as mx = mkF m 0 Ls []) (body : ∀ w : Wk, Cx w l Z y.cls bytes mx rt y.name rm n0 → G w Q h 0 0 0 Ls []) : Con l Z y bytes mx rt rm as h n0 Q := by
  intro ws
  refine MetFree.of_bodySF hp hisR ?_
  intro p e s m args below meth c s₁ Bd hml0 hP hK
  obtain ⟨rfl, hZ, hh⟩ := hP
  have X0 : Stand p l e rm s m args below meth c s₁ [] 0 0 := Stand.of_body Bd
  have e0 : s₁.heap = h := by rw [← hh, Bd.state]; rfl
  obtain ⟨s₂, o, h1, h2, h3, h4⟩ := body (p, l, e, rm, s, m, args, below, meth, c, n0) ⟨rfl, Bd.exec, hZ, Bd.bytes, hml0, findClass_of_methodNamed Bd.named, Bd.returns, Bd.notSynchronized, (name_of_methodNamed Bd.named Bd.method).1, rfl, rfl⟩ s₁ [] X0 e0 (Fr.nil n0)
  exact ⟨s₂, o, castTop (hef m) h1, h2, h3, h4⟩
theorem Cx.ex (C : Cx w l Z own bytes mx rt nm rm n0) : w.p.tables.exec = Jvm.exec := C.2.1
theorem Cx.hZ (C : Cx w l Z own bytes mx rt nm rm n0) : Z.Warmed39 w.s.vm := C.2.2.1
theorem Cx.dec (C : Cx w l Z own bytes mx rt nm rm n0) {r : Except DecodeError (Instr × Nat)} (hd : decode bytes pc = r) : decode w.c.code pc = r := hb C.2.2.2.1 hd
theorem Cx.ow (C : Cx w l Z own bytes mx rt nm rm n0) : w.s.vm.findClass own = some w.m.cls := C.2.2.2.2.2.1
theorem Cx.ml (C : Cx w l Z own bytes mx rt nm rm n0) : w.c.maxLocals = mx := C.2.2.2.2.1
theorem Cx.ret (C : Cx w l Z own bytes mx rt nm rm n0) : w.meth.sig.returnType = rt := C.2.2.2.2.2.2.1
theorem Cx.lk (C : Cx w l Z own bytes mx rt nm rm n0) : w.meth.locks = false := C.2.2.2.2.2.2.2.1
theorem Cx.mn (C : Cx w l Z own bytes mx rt nm rm n0) : w.meth.name = nm := C.2.2.2.2.2.2.2.2.1
theorem Cx.ro (C : Cx w l Z own bytes mx rt nm rm n0) : w.R = rm := C.2.2.2.2.2.2.2.2.2.1
theorem Cx.nn (C : Cx w l Z own bytes mx rt nm rm n0) : w.n0 = n0 := C.2.2.2.2.2.2.2.2.2.2
theorem G.adv (st' : ∀ T locs, Stand w.p w.l w.e w.R w.s w.m w.args w.below w.meth w.c T locs k n → T.heap = h → ∀ t, Steps w.p.tables w.e w.below (T.setTop (mkF w.m pc' Ls' rest)) t → Steps w.p.tables w.e w.below (T.setTop (mkF w.m pc Ls st)) t) (g : G w Q h k n pc' Ls' rest) : G w Q h k n pc Ls st :=
  fun T locs X eT N => let ⟨s₂, o, h1, h2⟩ := g T locs X eT N; ⟨s₂, o, st' T locs X eT _ h1, h2⟩
theorem G.to {T T' : State} {locs' : List Loc} {h' : Heap} {k' n' : Nat} (X' : Stand w.p w.l w.e w.R w.s w.m w.args w.below w.meth w.c T' locs' k' n') (eT : T'.heap = h') (N : Fr w.n0 locs') (s' : ∀ t, Steps w.p.tables w.e w.below (T'.setTop (mkF w.m pc' Ls' rest)) t → Steps w.p.tables w.e w.below (T.setTop (mkF w.m pc Ls st)) t) (g : G w Q h' k' n' pc' Ls' rest) : Ends w Q (T.setTop (mkF w.m pc Ls st)) :=
  let ⟨s₂, o, h1, h2⟩ := g T' locs' X' eT N; ⟨s₂, o, s' _ h1, h2⟩
theorem G.more (hk : k ≤ k') (hn : n ≤ n') (g : G w Q h k' n' pc Ls st) : G w Q h k n pc Ls st := fun T locs X eT N => g T locs (X.more hk hn) eT N
/-! plain steps -/
theorem g_aloadN (C : Cx w l Z own bytes mx rt nm rm n0) {i : Fin 4} {v : Value} (hd : decode bytes pc = .ok (.aload_n i, 1)) (hl : Ls[i.val]? = some (.val v)) (hv : v.isRef = true) (hp : pc + 1 = pc') (g : G w Q h k n pc' Ls (v :: st)) : G w Q h k n pc Ls st := by
  subst hp; exact g.adv fun T locs X _ t r => XS.aloadN X.here C.ex rfl (C.dec hd) hl hv r
theorem g_aload (C : Cx w l Z own bytes mx rt nm rm n0) {i : Nat} {v : Value} (hd : decode bytes pc = .ok (.aload i, 2)) (hl : Ls[i]? = some (.val v)) (hv : v.isRef = true) (hp : pc + 2 = pc') (g : G w Q h k n pc' Ls (v :: st)) : G w Q h k n pc Ls st := by
  subst hp; exact g.adv fun T locs X _ t r => XS.aload X.here C.ex rfl (C.dec hd) hl hv r
theorem g_iloadN (C : Cx w l Z own bytes mx rt nm rm n0) {i : Fin 4} {v : Int32} (hd : decode bytes pc = .ok (.iload_n i, 1)) (hl : Ls[i.val]? = some (.val (.int v))) (hp : pc + 1 = pc') (g : G w Q h k n pc' Ls (.int v :: st)) : G w Q h k n pc Ls st := by
  subst hp; exact g.adv fun T locs X _ t r => XS.iloadN X.here C.ex rfl (C.dec hd) hl r
theorem g_iload (C : Cx w l Z own bytes mx rt nm rm n0) {i : Nat} {v : Int32} (hd : decode bytes pc = .ok (.iload i, 2)) (hl : Ls[i]? = some (.val (.int v))) (hp : pc + 2 = pc') (g : G w Q h k n pc' Ls (.int v :: st)) : G w Q h k n pc Ls st := by
  subst hp; exact g.adv fun T locs X _ t r => XS.iload X.here C.ex rfl (C.dec hd) hl r
theorem g_lloadN (C : Cx w l Z own bytes mx rt nm rm n0) {i : Fin 4} {v : Int64} (hd : decode bytes pc = .ok (.lload_n i, 1)) (hl : Ls[i.val]? = some (.val (.long v))) (hp : pc + 1 = pc') (g : G w Q h k n pc' Ls (.long v :: st)) : G w Q h k n pc Ls st := by
  subst hp; exact g.adv fun T locs X _ t r => XS.lloadN X.here C.ex rfl (C.dec hd) hl r
theorem g_lload (C : Cx w l Z own bytes mx rt nm rm n0) {i : Nat} {v : Int64} (hd : decode bytes pc = .ok (.lload i, 2)) (hl : Ls[i]? = some (.val (.long v))) (hp : pc + 2 = pc') (g : G w Q h k n pc' Ls (.long v :: st)) : G w Q h k n pc Ls st := by
  subst hp; exact g.adv fun T locs X _ t r => XS.lload X.here C.ex rfl (C.dec hd) hl r
theorem g_istoreN (C : Cx w l Z own bytes mx rt nm rm n0) {i : Fin 4} {x : Int32} (hd : decode bytes pc = .ok (.istore_n i, 1)) (hs : st = .int x :: rest) (hl : storeLocals Ls i.val (.int x) = some Ls') (hp : pc + 1 = pc') (g : G w Q h k n pc' Ls' rest) : G w Q h k n pc Ls st := by
  subst hp; exact g.adv fun T locs X _ t r => XS.istoreN X.here C.ex rfl (C.dec hd) hs hl r
theorem g_istore (C : Cx w l Z own bytes mx rt nm rm n0) {i : Nat} {x : Int32} (hd : decode bytes pc = .ok (.istore i, 2)) (hs : st = .int x :: rest) (hl : storeLocals Ls i (.int x) = some Ls') (hp : pc + 2 = pc') (g : G w Q h k n pc' Ls' rest) : G w Q h k n pc Ls st := by
  subst hp; exact g.adv fun T locs X _ t r => XS.istore X.here C.ex rfl (C.dec hd) hs hl r
theorem g_lstoreN (C : Cx w l Z own bytes mx rt nm rm n0) {i : Fin 4} {x : Int64} (hd : decode bytes pc = .ok (.lstore_n i, 1)) (hs : st = .long x :: rest) (hl : storeLocals Ls i.val (.long x) = some Ls') (hp : pc + 1 = pc') (g : G w Q h k n pc' Ls' rest) : G w Q h k n pc Ls st := by
  subst hp; exact g.adv fun T locs X _ t r => XS.lstoreN X.here C.ex rfl (C.dec hd) hs hl r
theorem g_lstore (C : Cx w l Z own bytes mx rt nm rm n0) {i : Nat} {x : Int64} (hd : decode bytes pc = .ok (.lstore i, 2)) (hs : st = .long x :: rest) (hl : storeLocals Ls i (.long x) = some Ls') (hp : pc + 2 = pc') (g : G w Q h k n pc' Ls' rest) : G w Q h k n pc Ls st := by
  subst hp; exact g.adv fun T locs X _ t r => XS.lstore X.here C.ex rfl (C.dec hd) hs hl r
theorem g_astoreN (C : Cx w l Z own bytes mx rt nm rm n0) {i : Fin 4} {x : Value} (hd : decode bytes pc = .ok (.astore_n i, 1)) (hs : st = x :: rest) (hv : x.isRef = true) (hl : storeLocals Ls i.val x = some Ls') (hp : pc + 1 = pc') (g : G w Q h k n pc' Ls' rest) : G w Q h k n pc Ls st := by
  subst hp; exact g.adv fun T locs X _ t r => XS.astoreN X.here C.ex rfl (C.dec hd) hs hv hl r
theorem g_astore (C : Cx w l Z own bytes mx rt nm rm n0) {i : Nat} {x : Value} (hd : decode bytes pc = .ok (.astore i, 2)) (hs : st = x :: rest) (hv : x.isRef = true) (hl : storeLocals Ls i x = some Ls') (hp : pc + 2 = pc') (g : G w Q h k n pc' Ls' rest) : G w Q h k n pc Ls st := by
  subst hp; exact g.adv fun T locs X _ t r => XS.astore X.here C.ex rfl (C.dec hd) hs hv hl r
theorem g_iinc (C : Cx w l Z own bytes mx rt nm rm n0) {i : Nat} {cst : Int} {x : Int32} (hd : decode bytes pc = .ok (.iinc i cst, 3)) (hl : Ls[i]? = some (.val (.int x))) (hl' : storeLocals Ls i (.int (x + Int32.ofInt cst)) = some Ls') (hp : pc + 3 = pc') (g : G w Q h k n pc' Ls' st) : G w Q h k n pc Ls st := by
  subst hp; exact g.adv fun T locs X _ t r => XS.iinc X.here C.ex rfl (C.dec hd) hl hl' r
theorem g_iconst (C : Cx w l Z own bytes mx rt nm rm n0) {i : Int} {v : Int32} (hd : decode bytes pc = .ok (.iconst i, 1)) (hv : Int32.ofInt i = v) (hp : pc + 1 = pc') (g : G w Q h k n pc' Ls (.int v :: st)) : G w Q h k n pc Ls st := by
  subst hp hv; exact g.adv fun T locs X _ t r => XS.iconst X.here C.ex rfl (C.dec hd) r
theorem g_bipush (C : Cx w l Z own bytes mx rt nm rm n0) {i : Int} {v : Int32} (hd : decode bytes pc = .ok (.bipush i, 2)) (hv : (Int8.ofInt i).toInt32 = v) (hp : pc + 2 = pc') (g : G w Q h k n pc' Ls (.int v :: st)) : G w Q h k n pc Ls st := by
  subst hp hv; exact g.adv fun T locs X _ t r => XS.bipush X.here C.ex rfl (C.dec hd) r
theorem g_sipush (C : Cx w l Z own bytes mx rt nm rm n0) {i : Int} {v : Int32} (hd : decode bytes pc = .ok (.sipush i, 3)) (hv : (Int16.ofInt i).toInt32 = v) (hp : pc + 3 = pc') (g : G w Q h k n pc' Ls (.int v :: st)) : G w Q h k n pc Ls st := by
  subst hp hv; exact g.adv fun T locs X _ t r => XS.sipush X.here C.ex rfl (C.dec hd) r
theorem g_lconst (C : Cx w l Z own bytes mx rt nm rm n0) {i : Fin 2} {v : Int64} (hd : decode bytes pc = .ok (.lconst i, 1)) (hv : Int64.ofNat i.val = v) (hp : pc + 1 = pc') (g : G w Q h k n pc' Ls (.long v :: st)) : G w Q h k n pc Ls st := by
  subst hp hv; exact g.adv fun T locs X _ t r => XS.lconst X.here C.ex rfl (C.dec hd) r
theorem g_aconstNull (C : Cx w l Z own bytes mx rt nm rm n0) (hd : decode bytes pc = .ok (.aconst_null, 1)) (hp : pc + 1 = pc') (g : G w Q h k n pc' Ls (.null :: st)) : G w Q h k n pc Ls st := by
  subst hp; exact g.adv fun T locs X _ t r => XS.aconstNull X.here C.ex rfl (C.dec hd) r
theorem g_ldcInt (C : Cx w l Z own bytes mx rt nm rm n0) {i : Nat} {v : Int32} (hw : (Jvm.Cond.constant own i v).before a0 Z = true) (hd : decode bytes pc = .ok (.ldc i, 2)) (hp : pc + 2 = pc') (g : G w Q h k n pc' Ls (.int v :: st)) : G w Q h k n pc Ls st := by
  subst hp; exact g.adv fun T locs X _ t r => X.ldcInt C.ex C.ow (mvT C.hZ hw) (g := mkF w.m pc Ls st) rfl (C.dec hd) t r
theorem g_ldc2Long (C : Cx w l Z own bytes mx rt nm rm n0) {i : Nat} {v : Int64} (hw : (Jvm.Cond.constantLong own i v).before a0 Z = true) (hd : decode bytes pc = .ok (.ldc2_w i, 3)) (hp : pc + 3 = pc') (g : G w Q h k n pc' Ls (.long v :: st)) : G w Q h k n pc Ls st := by
  subst hp; exact g.adv fun T locs X _ t r => X.ldc2Long C.ex C.ow (mvT C.hZ hw) (g := mkF w.m pc Ls st) rfl (C.dec hd) t r
theorem g_iadd (C : Cx w l Z own bytes mx rt nm rm n0) {x y : Int32} (hd : decode bytes pc = .ok (.iadd, 1)) (hs : st = .int y :: .int x :: rest) (hp : pc + 1 = pc') (g : G w Q h k n pc' Ls (.int (x + y) :: rest)) : G w Q h k n pc Ls st := by
  subst hp; exact g.adv fun T locs X _ t r => XS.iadd X.here C.ex rfl (C.dec hd) hs r
theorem g_isub (C : Cx w l Z own bytes mx rt nm rm n0) {x y : Int32} (hd : decode bytes pc = .ok (.isub, 1)) (hs : st = .int y :: .int x :: rest) (hp : pc + 1 = pc') (g : G w Q h k n pc' Ls (.int (x - y) :: rest)) : G w Q h k n pc Ls st := by
  subst hp; exact g.adv fun T locs X _ t r => XS.isub X.here C.ex rfl (C.dec hd) hs r
theorem g_imul (C : Cx w l Z own bytes mx rt nm rm n0) {x y : Int32} (hd : decode bytes pc = .ok (.imul, 1)) (hs : st = .int y :: .int x :: rest) (hp : pc + 1 = pc') (g : G w Q h k n pc' Ls (.int (x * y) :: rest)) : G w Q h k n pc Ls st := by
  subst hp; exact g.adv fun T locs X _ t r => XS.imul X.here C.ex rfl (C.dec hd) hs r
theorem g_iand (C : Cx w l Z own bytes mx rt nm rm n0) {x y : Int32} (hd : decode bytes pc = .ok (.iand, 1)) (hs : st = .int y :: .int x :: rest) (hp : pc + 1 = pc') (g : G w Q h k n pc' Ls (.int (x &&& y) :: rest)) : G w Q h k n pc Ls st := by
  subst hp; exact g.adv fun T locs X _ t r => XS.iand X.here C.ex rfl (C.dec hd) hs r
theorem g_ior (C : Cx w l Z own bytes mx rt nm rm n0) {x y : Int32} (hd : decode bytes pc = .ok (.ior, 1)) (hs : st = .int y :: .int x :: rest) (hp : pc + 1 = pc') (g : G w Q h k n pc' Ls (.int (x ||| y) :: rest)) : G w Q h k n pc Ls st := by
  subst hp; exact g.adv fun T locs X _ t r => XS.ior X.here C.ex rfl (C.dec hd) hs r
theorem g_ixor (C : Cx w l Z own bytes mx rt nm rm n0) {x y : Int32} (hd : decode bytes pc = .ok (.ixor, 1)) (hs : st = .int y :: .int x :: rest) (hp : pc + 1 = pc') (g : G w Q h k n pc' Ls (.int (x ^^^ y) :: rest)) : G w Q h k n pc Ls st := by
  subst hp; exact g.adv fun T locs X _ t r => XS.ixor X.here C.ex rfl (C.dec hd) hs r
theorem g_ladd (C : Cx w l Z own bytes mx rt nm rm n0) {x y : Int64} (hd : decode bytes pc = .ok (.ladd, 1)) (hs : st = .long y :: .long x :: rest) (hp : pc + 1 = pc') (g : G w Q h k n pc' Ls (.long (x + y) :: rest)) : G w Q h k n pc Ls st := by
  subst hp; exact g.adv fun T locs X _ t r => XS.ladd X.here C.ex rfl (C.dec hd) hs r
theorem g_lsub (C : Cx w l Z own bytes mx rt nm rm n0) {x y : Int64} (hd : decode bytes pc = .ok (.lsub, 1)) (hs : st = .long y :: .long x :: rest) (hp : pc + 1 = pc') (g : G w Q h k n pc' Ls (.long (x - y) :: rest)) : G w Q h k n pc Ls st := by
  subst hp; exact g.adv fun T locs X _ t r => XS.lsub X.here C.ex rfl (C.dec hd) hs r
theorem g_lmul (C : Cx w l Z own bytes mx rt nm rm n0) {x y : Int64} (hd : decode bytes pc = .ok (.lmul, 1)) (hs : st = .long y :: .long x :: rest) (hp : pc + 1 = pc') (g : G w Q h k n pc' Ls (.long (x * y) :: rest)) : G w Q h k n pc Ls st := by
  subst hp; exact g.adv fun T locs X _ t r => XS.lmul X.here C.ex rfl (C.dec hd) hs r
theorem g_land (C : Cx w l Z own bytes mx rt nm rm n0) {x y : Int64} (hd : decode bytes pc = .ok (.land, 1)) (hs : st = .long y :: .long x :: rest) (hp : pc + 1 = pc') (g : G w Q h k n pc' Ls (.long (x &&& y) :: rest)) : G w Q h k n pc Ls st := by
  subst hp; exact g.adv fun T locs X _ t r => XS.land X.here C.ex rfl (C.dec hd) hs r
theorem g_lor (C : Cx w l Z own bytes mx rt nm rm n0) {x y : Int64} (hd : decode bytes pc = .ok (.lor, 1)) (hs : st = .long y :: .long x :: rest) (hp : pc + 1 = pc') (g : G w Q h k n pc' Ls (.long (x ||| y) :: rest)) : G w Q h k n pc Ls st := by
  subst hp; exact g.adv fun T locs X _ t r => XS.lor X.here C.ex rfl (C.dec hd) hs r
theorem g_lxor (C : Cx w l Z own bytes mx rt nm rm n0) {x y : Int64} (hd : decode bytes pc = .ok (.lxor, 1)) (hs : st = .long y :: .long x :: rest) (hp : pc + 1 = pc') (g : G w Q h k n pc' Ls (.long (x ^^^ y) :: rest)) : G w Q h k n pc Ls st := by
  subst hp; exact g.adv fun T locs X _ t r => XS.lxor X.here C.ex rfl (C.dec hd) hs r
theorem g_ishl (C : Cx w l Z own bytes mx rt nm rm n0) {x y : Int32} (hd : decode bytes pc = .ok (.ishl, 1)) (hs : st = .int y :: .int x :: rest) (hp : pc + 1 = pc') (g : G w Q h k n pc' Ls (.int (x <<< (y &&& 31)) :: rest)) : G w Q h k n pc Ls st := by
  subst hp; exact g.adv fun T locs X _ t r => XS.ishl X.here C.ex rfl (C.dec hd) hs r
theorem g_ishr (C : Cx w l Z own bytes mx rt nm rm n0) {x y : Int32} (hd : decode bytes pc = .ok (.ishr, 1)) (hs : st = .int y :: .int x :: rest) (hp : pc + 1 = pc') (g : G w Q h k n pc' Ls (.int (x >>> (y &&& 31)) :: rest)) : G w Q h k n pc Ls st := by
  subst hp; exact g.adv fun T locs X _ t r => XS.ishr X.here C.ex rfl (C.dec hd) hs r
theorem g_iushr (C : Cx w l Z own bytes mx rt nm rm n0) {x y : Int32} (hd : decode bytes pc = .ok (.iushr, 1)) (hs : st = .int y :: .int x :: rest) (hp : pc + 1 = pc') (g : G w Q h k n pc' Ls (.int ((x.toUInt32 >>> (y &&& 31).toUInt32).toInt32) :: rest)) : G w Q h k n pc Ls st := by
  subst hp; exact g.adv fun T locs X _ t r => XS.iushr X.here C.ex rfl (C.dec hd) hs r
theorem g_ineg (C : Cx w l Z own bytes mx rt nm rm n0) {x : Int32} (hd : decode bytes pc = .ok (.ineg, 1)) (hs : st = .int x :: rest) (hp : pc + 1 = pc') (g : G w Q h k n pc' Ls (.int (-x) :: rest)) : G w Q h k n pc Ls st := by
  subst hp; exact g.adv fun T locs X _ t r => XS.ineg X.here C.ex rfl (C.dec hd) hs r
theorem g_lneg (C : Cx w l Z own bytes mx rt nm rm n0) {x : Int64} (hd : decode bytes pc = .ok (.lneg, 1)) (hs : st = .long x :: rest) (hp : pc + 1 = pc') (g : G w Q h k n pc' Ls (.long (-x) :: rest)) : G w Q h k n pc Ls st := by
  subst hp; exact g.adv fun T locs X _ t r => XS.lneg X.here C.ex rfl (C.dec hd) hs r
theorem g_i2l (C : Cx w l Z own bytes mx rt nm rm n0) {x : Int32} (hd : decode bytes pc = .ok (.i2l, 1)) (hs : st = .int x :: rest) (hp : pc + 1 = pc') (g : G w Q h k n pc' Ls (.long x.toInt64 :: rest)) : G w Q h k n pc Ls st := by
  subst hp; exact g.adv fun T locs X _ t r => XS.i2l X.here C.ex rfl (C.dec hd) hs r
theorem g_l2i (C : Cx w l Z own bytes mx rt nm rm n0) {x : Int64} (hd : decode bytes pc = .ok (.l2i, 1)) (hs : st = .long x :: rest) (hp : pc + 1 = pc') (g : G w Q h k n pc' Ls (.int x.toInt32 :: rest)) : G w Q h k n pc Ls st := by
  subst hp; exact g.adv fun T locs X _ t r => XS.l2i X.here C.ex rfl (C.dec hd) hs r
theorem g_i2b (C : Cx w l Z own bytes mx rt nm rm n0) {x : Int32} (hd : decode bytes pc = .ok (.i2b, 1)) (hs : st = .int x :: rest) (hp : pc + 1 = pc') (g : G w Q h k n pc' Ls (.int x.toInt8.toInt32 :: rest)) : G w Q h k n pc Ls st := by
  subst hp; exact g.adv fun T locs X _ t r => XS.i2b X.here C.ex rfl (C.dec hd) hs r
theorem g_i2s (C : Cx w l Z own bytes mx rt nm rm n0) {x : Int32} (hd : decode bytes pc = .ok (.i2s, 1)) (hs : st = .int x :: rest) (hp : pc + 1 = pc') (g : G w Q h k n pc' Ls (.int x.toInt16.toInt32 :: rest)) : G w Q h k n pc Ls st := by
  subst hp; exact g.adv fun T locs X _ t r => XS.i2s X.here C.ex rfl (C.dec hd) hs r
theorem g_i2c (C : Cx w l Z own bytes mx rt nm rm n0) {x : Int32} (hd : decode bytes pc = .ok (.i2c, 1)) (hs : st = .int x :: rest) (hp : pc + 1 = pc') (g : G w Q h k n pc' Ls (.int x.toUInt32.toUInt16.toUInt32.toInt32 :: rest)) : G w Q h k n pc Ls st := by
  subst hp; exact g.adv fun T locs X _ t r => XS.i2c X.here C.ex rfl (C.dec hd) hs r
theorem g_irem (C : Cx w l Z own bytes mx rt nm rm n0) {x y : Int32} (hd : decode bytes pc = .ok (.irem, 1)) (hs : st = .int y :: .int x :: rest) (hy : y ≠ 0) (hp : pc + 1 = pc') (g : G w Q h k n pc' Ls (.int (x % y) :: rest)) : G w Q h k n pc Ls st := by
  subst hp; exact g.adv fun T locs X _ t r => iremM (g := mkF w.m pc Ls st) X C.ex rfl (C.dec hd) hs hy r
theorem g_idiv (C : Cx w l Z own bytes mx rt nm rm n0) {x y : Int32} (hd : decode bytes pc = .ok (.idiv, 1)) (hs : st = .int y :: .int x :: rest) (hy : y ≠ 0) (hp : pc + 1 = pc') (g : G w Q h k n pc' Ls (.int (x / y) :: rest)) : G w Q h k n pc Ls st := by
  subst hp; exact g.adv fun T locs X _ t r => XS.idiv X.here C.ex rfl (C.dec hd) hs hy r
theorem g_ldiv (C : Cx w l Z own bytes mx rt nm rm n0) {x y : Int64} (hd : decode bytes pc = .ok (.ldiv, 1)) (hs : st = .long y :: .long x :: rest) (hy : y ≠ 0) (hp : pc + 1 = pc') (g : G w Q h k n pc' Ls (.long (x / y) :: rest)) : G w Q h k n pc Ls st := by
  subst hp; exact g.adv fun T locs X _ t r => XS.ldiv X.here C.ex rfl (C.dec hd) hs hy r
theorem g_lrem (C : Cx w l Z own bytes mx rt nm rm n0) {x y : Int64} (hd : decode bytes pc = .ok (.lrem, 1)) (hs : st = .long y :: .long x :: rest) (hy : y ≠ 0) (hp : pc + 1 = pc') (g : G w Q h k n pc' Ls (.long (x - (x / y) * y) :: rest)) : G w Q h k n pc Ls st := by
  subst hp; exact g.adv fun T locs X _ t r => XS.lrem X.here C.ex rfl (C.dec hd) hs hy r
theorem g_lcmp (C : Cx w l Z own bytes mx rt nm rm n0) {x y : Int64} (hd : decode bytes pc = .ok (.lcmp, 1)) (hs : st = .long y :: .long x :: rest) (hp : pc + 1 = pc') (g : G w Q h k n pc' Ls (.int (lcmpW x y) :: rest)) : G w Q h k n pc Ls st := by
  subst hp; exact g.adv fun T locs X _ t r => XS.lcmp X.here C.ex rfl (C.dec hd) hs r
theorem g_dup (C : Cx w l Z own bytes mx rt nm rm n0) {x : Value} (hd : decode bytes pc = .ok (.dup, 1)) (hs : st = x :: rest) (hc : x.category = 1) (hp : pc + 1 = pc') (g : G w Q h k n pc' Ls (x :: x :: rest)) : G w Q h k n pc Ls st := by
  subst hp; exact g.adv fun T locs X _ t r => XS.dup X.here C.ex rfl (C.dec hd) hs hc r
theorem g_pop (C : Cx w l Z own bytes mx rt nm rm n0) {x : Value} (hd : decode bytes pc = .ok (.pop, 1)) (hs : st = x :: rest) (hc : x.category = 1) (hp : pc + 1 = pc') (g : G w Q h k n pc' Ls rest) : G w Q h k n pc Ls st := by
  subst hp; exact g.adv fun T locs X _ t r => XS.pop X.here C.ex rfl (C.dec hd) hs hc r
theorem g_dup_x1 (C : Cx w l Z own bytes mx rt nm rm n0) {x y : Value} (hd : decode bytes pc = .ok (.dup_x1, 1)) (hs : st = x :: y :: rest) (hc : x.category = 1) (hc' : y.category = 1) (hp : pc + 1 = pc') (g : G w Q h k n pc' Ls (x :: y :: x :: rest)) : G w Q h k n pc Ls st := by
  subst hp; exact g.adv fun T locs X _ t r => XS.dupX1 X.here C.ex rfl (C.dec hd) hs hc hc' r
theorem g_dup2 (C : Cx w l Z own bytes mx rt nm rm n0) {x y : Value} (hd : decode bytes pc = .ok (.dup2, 1)) (hs : st = x :: y :: rest) (hc : x.category = 1) (hc' : y.category = 1) (hp : pc + 1 = pc') (g : G w Q h k n pc' Ls (x :: y :: x :: y :: rest)) : G w Q h k n pc Ls st := by
  subst hp; exact g.adv fun T locs X _ t r => XT.dup2 X.here C.ex rfl (C.dec hd) hs hc hc' r
theorem g_dup2L (C : Cx w l Z own bytes mx rt nm rm n0) {x : Int64} (hd : decode bytes pc = .ok (.dup2, 1)) (hs : st = .long x :: rest) (hp : pc + 1 = pc') (g : G w Q h k n pc' Ls (.long x :: .long x :: rest)) : G w Q h k n pc Ls st := by
  subst hp; exact g.adv fun T locs X _ t r => XT.dup2L X.here C.ex rfl (C.dec hd) hs r
theorem g_pop2L (C : Cx w l Z own bytes mx rt nm rm n0) {x : Int64} (hd : decode bytes pc = .ok (.pop2, 1)) (hs : st = .long x :: rest) (hp : pc + 1 = pc') (g : G w Q h k n pc' Ls rest) : G w Q h k n pc Ls st := by
  subst hp hs; exact g.adv fun T locs X _ t r => by
    have hx := C.ex
    have hd' := C.dec hd
    show Steps w.p.tables w.e w.below (T.setTop { method := w.m, pc := pc, locals := Ls, stack := _ :: rest, locked := none }) _
    jvm_step X.here [X.here.top, hx, hd', Value.category]
    exact r
theorem g_dup2_x2L (C : Cx w l Z own bytes mx rt nm rm n0) {x : Int64} {y : Int32} {z : Addr} (hd : decode bytes pc = .ok (.dup2_x2, 1)) (hs : st = .long x :: .int y :: .ref z :: rest) (hp : pc + 1 = pc') (g : G w Q h k n pc' Ls (.long x :: .int y :: .ref z :: .long x :: rest)) : G w Q h k n pc Ls st := by
  subst hp hs; exact g.adv fun T locs X _ t r => by
    have hx := C.ex
    have hd' := C.dec hd
    show Steps w.p.tables w.e w.below (T.setTop { method := w.m, pc := pc, locals := Ls, stack := _ :: _ :: _ :: rest, locked := none }) _
    jvm_step X.here [X.here.top, hx, hd', Value.category]
    exact r
theorem g_goto (C : Cx w l Z own bytes mx rt nm rm n0) {o : Int} (hd : decode bytes pc = .ok (.goto o, 3)) (ho : 0 ≤ (pc : Int) + o) (hp : ((pc : Int) + o).toNat = pc') (g : G w Q h k n pc' Ls st) : G w Q h k n pc Ls st :=
  g.adv fun T locs X _ t r => XS.goto X.here C.ex rfl (pc0 := pc) rfl (C.dec hd) ho hp r
theorem g_ifY (C : Cx w l Z own bytes mx rt nm rm n0) {cd : ClassFile.Cond} {o : Int} {x : Int32} (hd : decode bytes pc = .ok (.ifCond cd o, 3)) (hs : st = .int x :: rest) (hc : if_icmp.holds cd x 0 = true) (ho : 0 ≤ (pc : Int) + o) (hp : ((pc : Int) + o).toNat = pc') (g : G w Q h k n pc' Ls rest) : G w Q h k n pc Ls st :=
  g.adv fun T locs X _ t r => XS.ifYes X.here C.ex rfl (pc0 := pc) rfl (C.dec hd) hs ((if0 _ _).trans hc) ho hp r
theorem g_ifN (C : Cx w l Z own bytes mx rt nm rm n0) {cd : ClassFile.Cond} {o : Int} {x : Int32} (hd : decode bytes pc = .ok (.ifCond cd o, 3)) (hs : st = .int x :: rest) (hc : if_icmp.holds cd x 0 = false) (hp : pc + 3 = pc') (g : G w Q h k n pc' Ls rest) : G w Q h k n pc Ls st := by
  subst hp; exact g.adv fun T locs X _ t r => XS.ifNo X.here C.ex rfl (C.dec hd) hs ((if0 _ _).trans hc) r
theorem g_icY (C : Cx w l Z own bytes mx rt nm rm n0) {cd : ClassFile.Cond} {o : Int} {x y : Int32} (hd : decode bytes pc = .ok (.if_icmp cd o, 3)) (hs : st = .int y :: .int x :: rest) (hc : if_icmp.holds cd x y = true) (ho : 0 ≤ (pc : Int) + o) (hp : ((pc : Int) + o).toNat = pc') (g : G w Q h k n pc' Ls rest) : G w Q h k n pc Ls st :=
  g.adv fun T locs X _ t r => XS.icmpYes X.here C.ex rfl (pc0 := pc) rfl (C.dec hd) hs hc ho hp r
theorem g_icN (C : Cx w l Z own bytes mx rt nm rm n0) {cd : ClassFile.Cond} {o : Int} {x y : Int32} (hd : decode bytes pc = .ok (.if_icmp cd o, 3)) (hs : st = .int y :: .int x :: rest) (hc : if_icmp.holds cd x y = false) (hp : pc + 3 = pc') (g : G w Q h k n pc' Ls rest) : G w Q h k n pc Ls st := by
  subst hp; exact g.adv fun T locs X _ t r => XS.icmpNo X.here C.ex rfl (C.dec hd) hs hc r
/-- what a branch says, in plain words -/
def says (cd : ClassFile.Cond) (x y : Int32) : Prop := match cd with | .lt => x < y | .ge => ¬ x < y | .gt => y < x | .le => ¬ y < x | .eq => x = y | .ne => ¬ x = y
theorem says_t {cd : ClassFile.Cond} {x y : Int32} (q : says cd x y) : if_icmp.holds cd x y = true := by
  cases cd
  · exact (teq q).1
  · exact (feq q).2
  · exact (tlt q).1
  · exact (flt q).2.1
  · exact (tlt q).2.2.1
  · exact (flt q).2.2.2
theorem says_f {cd : ClassFile.Cond} {x y : Int32} (q : ¬ says cd x y) : if_icmp.holds cd x y = false := by
  cases cd
  · exact (feq q).1
  · exact (teq (Decidable.not_not.mp q)).2
  · exact (flt q).1
  · exact (tlt (Decidable.not_not.mp q)).2.1
  · exact (flt q).2.2.1
  · exact (tlt (Decidable.not_not.mp q)).2.2.2
theorem g_icB (C : Cx w l Z own bytes mx rt nm rm n0) {cd : ClassFile.Cond} {o : Int} {x y : Int32} {pcT : Nat} (hd : decode bytes pc = .ok (.if_icmp cd o, 3)) (hs : st = .int y :: .int x :: rest) (ho : 0 ≤ (pc : Int) + o) (hT : ((pc : Int) + o).toNat = pcT) (hp : pc + 3 = pc') (gy : says cd x y → G w Q h k n pcT Ls rest) (gn : ¬ says cd x y → G w Q h k n pc' Ls rest) : G w Q h k n pc Ls st := by
  by_cases q : says cd x y
  · exact g_icY C hd hs (says_t q) ho hT (gy q)
  · exact g_icN C hd hs (says_f q) hp (gn q)
theorem g_ifB (C : Cx w l Z own bytes mx rt nm rm n0) {cd : ClassFile.Cond} {o : Int} {x : Int32} {pcT : Nat} (hd : decode bytes pc = .ok (.ifCond cd o, 3)) (hs : st = .int x :: rest) (ho : 0 ≤ (pc : Int) + o) (hT : ((pc : Int) + o).toNat = pcT) (hp : pc + 3 = pc') (gy : says cd x 0 → G w Q h k n pcT Ls rest) (gn : ¬ says cd x 0 → G w Q h k n pc' Ls rest) : G w Q h k n pc Ls st := by
  by_cases q : says cd x 0
  · exact g_ifY C hd hs (says_t q) ho hT (gy q)
  · exact g_ifN C hd hs (says_f q) hp (gn q)
theorem g_ifnullY (C : Cx w l Z own bytes mx rt nm rm n0) {o : Int} (hd : decode bytes pc = .ok (.ifnull o, 3)) (hs : st = .null :: rest) (ho : 0 ≤ (pc : Int) + o) (hp : ((pc : Int) + o).toNat = pc') (g : G w Q h k n pc' Ls rest) : G w Q h k n pc Ls st :=
  g.adv fun T locs X _ t r => XS.ifnullYes X.here C.ex rfl (pc0 := pc) rfl (C.dec hd) hs ho hp r
theorem g_ifnullN (C : Cx w l Z own bytes mx rt nm rm n0) {o : Int} {b : Addr} (hd : decode bytes pc = .ok (.ifnull o, 3)) (hs : st = .ref b :: rest) (hp : pc + 3 = pc') (g : G w Q h k n pc' Ls rest) : G w Q h k n pc Ls st := by
  subst hp; exact g.adv fun T locs X _ t r => XS.ifnullNo X.here C.ex rfl (C.dec hd) hs r
theorem g_ifnonnullY (C : Cx w l Z own bytes mx rt nm rm n0) {o : Int} {b : Addr} (hd : decode bytes pc = .ok (.ifnonnull o, 3)) (hs : st = .ref b :: rest) (ho : 0 ≤ (pc : Int) + o) (hp : ((pc : Int) + o).toNat = pc') (g : G w Q h k n pc' Ls rest) : G w Q h k n pc Ls st :=
  g.adv fun T locs X _ t r => XS.ifnonnullYes X.here C.ex rfl (pc0 := pc) rfl (C.dec hd) hs ho hp r
theorem g_ifnonnullN (C : Cx w l Z own bytes mx rt nm rm n0) {o : Int} (hd : decode bytes pc = .ok (.ifnonnull o, 3)) (hs : st = .null :: rest) (hp : pc + 3 = pc') (g : G w Q h k n pc' Ls rest) : G w Q h k n pc Ls st := by
  subst hp; exact g.adv fun T locs X _ t r => XS.ifnonnullNo X.here C.ex rfl (C.dec hd) hs r
theorem g_acmp (C : Cx w l Z own bytes mx rt nm rm n0) {cd : ACond} {o : Int} {x y : Value} {same : Bool} (hd : decode bytes pc = .ok (.if_acmp cd o, 3)) (hs : st = y :: x :: rest) (h1 : x.isRef = true) (h2 : y.isRef = true) (hq : decide (x = y) = same) (ho : 0 ≤ (pc : Int) + o) (hp : pc' = if acV cd same = true then ((pc : Int) + o).toNat else pc + 3) (g : G w Q h k n pc' Ls rest) : G w Q h k n pc Ls st :=
  g.adv fun T locs X _ t r => Jvm.RoadKit.acmp (g := mkF w.m pc Ls st) X C.ex rfl h1 h2 (pc0 := pc) rfl (C.dec hd) hs hq ho hp r
theorem g_tsw (C : Cx w l Z own bytes mx rt nm rm n0) {df lo hi : Int} {offs : Array Int} {len : Nat} {o : Int} {i : Int32} (hd : decode bytes pc = .ok (.tableswitch df lo hi offs, len)) (hs : st = .int i :: rest) (hin : ¬ (i.toInt < lo ∨ i.toInt > hi)) (hoff : offs[(i.toInt - lo).toNat]? = some o) (ho : 0 ≤ (pc : Int) + o) (hp : ((pc : Int) + o).toNat = pc') (g : G w Q h k n pc' Ls rest) : G w Q h k n pc Ls st :=
  g.adv fun T locs X _ t r => XS.tswIn X.here C.ex rfl (pc0 := pc) rfl (C.dec hd) hs hin hoff ho hp r
theorem g_tswOut (C : Cx w l Z own bytes mx rt nm rm n0) {df lo hi : Int} {offs : Array Int} {len : Nat} {i : Int32} (hd : decode bytes pc = .ok (.tableswitch df lo hi offs, len)) (hs : st = .int i :: rest) (hin : i.toInt < lo ∨ i.toInt > hi) (ho : 0 ≤ (pc : Int) + df) (hp : ((pc : Int) + df).toNat = pc') (g : G w Q h k n pc' Ls rest) : G w Q h k n pc Ls st :=
  g.adv fun T locs X _ t r => XS.tswOut X.here C.ex rfl (pc0 := pc) rfl (C.dec hd) hs hin ho hp r
/-! the heap and the tables -/
theorem g_getF (C : Cx w l Z own bytes mx rt nm rm n0) {R0 O f d : String} {i : Nat} {a : Addr} {v : Value} (hw : (Jvm.Cond.fieldLink own i R0 f d).before a0 Z = true) (via : Via Z R0 O f d) (hd : decode bytes pc = .ok (.getfield i, 3)) (hs : st = .ref a :: rest) (F : Fld Z h a O f d v) (hp : pc + 3 = pc') (g : G w Q h k n pc' Ls (v :: rest)) : G w Q h k n pc Ls st := by
  subst hp; intro T locs X eT N
  obtain ⟨T', X', e', s'⟩ := getF X C.ex C.hZ C.ow (host := "") (Or.inl hw) via eT F (g := mkF w.m pc Ls st) rfl hs (C.dec hd)
  exact G.to X' e' N s' g
theorem g_getFN (C : Cx w l Z own bytes mx rt nm rm n0) {R0 O f d host : String} {i : Nat} {a : Addr} {v : Value} (hw : (Jvm.Cond.fieldLinkNest own i R0 f d host).before a0 Z = true) (via : Via Z R0 O f d) (hd : decode bytes pc = .ok (.getfield i, 3)) (hs : st = .ref a :: rest) (F : Fld Z h a O f d v) (hp : pc + 3 = pc') (g : G w Q h k n pc' Ls (v :: rest)) : G w Q h k n pc Ls st := by
  subst hp; intro T locs X eT N
  obtain ⟨T', X', e', s'⟩ := getF X C.ex C.hZ C.ow (Or.inr hw) via eT F (g := mkF w.m pc Ls st) rfl hs (C.dec hd)
  exact G.to X' e' N s' g
theorem g_getS (C : Cx w l Z own bytes mx rt nm rm n0) {R0 O f d : String} {i : Nat} {v : Value} (hw : (Jvm.Cond.fieldLink own i R0 f d).before a0 Z = true) (via : Via Z R0 O f d) (hd : decode bytes pc = .ok (.getstatic i, 3)) (F : Sta Z h O f d v) (hp : pc + 3 = pc') (g : G w Q h k n pc' Ls (v :: st)) : G w Q h k n pc Ls st := by
  subst hp; intro T locs X eT N
  obtain ⟨T', X', e', s'⟩ := getS2 X C.ex C.hZ C.ow (host := "") (Or.inl hw) via eT F (g := mkF w.m pc Ls st) rfl (C.dec hd)
  exact G.to X' e' N s' g
theorem g_getSN (C : Cx w l Z own bytes mx rt nm rm n0) {R0 O f d host : String} {i : Nat} {v : Value} (hw : (Jvm.Cond.fieldLinkNest own i R0 f d host).before a0 Z = true) (via : Via Z R0 O f d) (hd : decode bytes pc = .ok (.getstatic i, 3)) (F : Sta Z h O f d v) (hp : pc + 3 = pc') (g : G w Q h k n pc' Ls (v :: st)) : G w Q h k n pc Ls st := by
  subst hp; intro T locs X eT N
  obtain ⟨T', X', e', s'⟩ := getS2 X C.ex C.hZ C.ow (Or.inr hw) via eT F (g := mkF w.m pc Ls st) rfl (C.dec hd)
  exact G.to X' e' N s' g
theorem fr_snoc {L : List Loc} {a : Addr} {sl k : Nat} (N : Fr k L) (q : k ≤ a) : Fr k (L ++ [⟨a, sl⟩]) := N.app fun y hy => by cases List.mem_singleton.mp hy; exact q
theorem g_putF (C : Cx w l Z own bytes mx rt nm rm n0) {R0 O f d K : String} {i kk : Nat} {ty : FieldType} {a : Addr} {v old : Value} (hw : (Jvm.Cond.fieldLink own i R0 f d).before a0 Z = true) (via : Via Z R0 O f d) (hd : decode bytes pc = .ok (.putfield i, 3)) (hs : st = v :: .ref a :: rest) (F : Fld Z h a O f d old) (E : Exa Z h a K) (La : (Jvm.Cond.lays K O f d).before a0 Z = true ∨ ((Jvm.Cond.laysFinal K O f d).before a0 Z = true ∧ own = O ∧ nm = "<init>")) (wi : (Jvm.Cond.instantiable K kk).before a0 Z = true) (hty : parseFieldDescriptor d = some ty) (hn : narrow ty v = v) (hf : fits ty v = true) (ge : n0 ≤ a) (hp : pc + 3 = pc')
    (g : ∀ h', Wr h h' a (Jvm.RoadKit.slotOf Z O f d) v → G w Q h' k n pc' Ls rest) : G w Q h k n pc Ls st := by
  subst hp; intro T locs X eT N
  obtain ⟨T', h', X', e', W, s'⟩ := putF X C.ex C.hZ C.ow (host := "") (Or.inl hw) via eT F E (La.imp id fun q => ⟨q.1, q.2.1, C.mn.trans q.2.2⟩) wi hty hn hf (g := mkF w.m pc Ls st) rfl hs (C.dec hd)
  exact G.to X' e' (fr_snoc N (C.nn ▸ ge)) s' (g h' W)
theorem g_putFN (C : Cx w l Z own bytes mx rt nm rm n0) {R0 O f d K : String} {i kk : Nat} {ty : FieldType} {a : Addr} {v v' old : Value} (hw : (Jvm.Cond.fieldLink own i R0 f d).before a0 Z = true) (via : Via Z R0 O f d) (hd : decode bytes pc = .ok (.putfield i, 3)) (hs : st = v :: .ref a :: rest) (F : Fld Z h a O f d old) (E : Exa Z h a K) (La : (Jvm.Cond.lays K O f d).before a0 Z = true ∨ ((Jvm.Cond.laysFinal K O f d).before a0 Z = true ∧ own = O ∧ nm = "<init>")) (wi : (Jvm.Cond.instantiable K kk).before a0 Z = true) (hty : parseFieldDescriptor d = some ty) (hn : narrow ty v = v') (hf : fits ty v' = true) (ge : n0 ≤ a) (hp : pc + 3 = pc')
    (g : ∀ h', Wr h h' a (Jvm.RoadKit.slotOf Z O f d) v' → G w Q h' k n pc' Ls rest) : G w Q h k n pc Ls st := by
  subst hp; intro T locs X eT N
  obtain ⟨T', h', X', e', W, s'⟩ := putFN X C.ex C.hZ C.ow hw via eT F E (La.imp id fun q => ⟨q.1, q.2.1, C.mn.trans q.2.2⟩) wi hty hn hf (g := mkF w.m pc Ls st) rfl hs (C.dec hd)
  exact G.to X' e' (fr_snoc N (C.nn ▸ ge)) s' (g h' W)
theorem g_new (C : Cx w l Z own bytes mx rt nm rm n0) {K : String} {i ns : Nat} (hw : (Jvm.Cond.classLink own i K).before a0 Z = true) (wi : (Jvm.Cond.instantiable K ns).before a0 Z = true) (wz : (Jvm.Cond.initialized K).before a0 Z = true) (hd : decode bytes pc = .ok (.new i, 3)) (hc : k' ≤ rm.cells) (hl : n' ≤ rm.slots) (ek : k + 1 = k') (en : n + ns = n') (hp : pc + 3 = pc')
    (g : ∀ h' a, a = h.size → Ext h h' → Exa Z h' a K → (∀ {O f d : String} {ty : FieldType}, Laid Z a0 K O f d → parseFieldDescriptor d = some ty → Fld Z h' a O f d (defaultValue ty)) → G w Q h' k' n' pc' Ls (.ref a :: st)) : G w Q h k n pc Ls st := by
  subst hp ek en; intro T locs X eT N
  obtain ⟨T', h', X', e', E, A, D, -, s'⟩ := newO X C.ex C.hZ C.ow hw wi wz eT (g := mkF w.m pc Ls st) rfl (C.dec hd) (by rw [C.ro]; exact hc) (by rw [C.ro]; exact hl)
  exact G.to X' e' N s' (g h' _ rfl E A D)
theorem g_initO (C : Cx w l Z own bytes mx rt nm rm n0) {i : Nat} {a : Addr} (hw : (Jvm.Cond.methodLink own i Lib.objectInit).before a0 Z = true) (w2 : (Jvm.Cond.instanceMethod Lib.objectInit).before a0 Z = true) (w3 : (Jvm.Cond.code Lib.objectInit ⟨#[0xb1]⟩ 1 none).before a0 Z = true) (hd : decode bytes pc = .ok (.invokespecial i, 3)) (hs : st = .ref a :: rest) (hz : Ls.size = mx) (hf : 1 ≤ rm.frames) (hl : (rest.map fun v => v.category).sum + 12 ≤ rm.locals) (hp : pc + 3 = pc') (g : G w Q h k n pc' Ls rest) : G w Q h k n pc Ls st := by
  subst hp; intro T locs X eT N
  obtain ⟨T', X', e', s'⟩ := initO X C.ex C.hZ C.ow hw w2 w3 eT (g := mkF w.m pc Ls st) rfl (hz.trans C.ml.symm) hs (C.dec hd) (by rw [C.ro]; exact hf) (W := (rest.map fun v => v.category).sum) (by show 2 * 0 + _ ≤ _; omega) (by rw [C.ro]; exact hl)
  exact G.to X' e' N s' g
theorem g_cast (C : Cx w l Z own bytes mx rt nm rm n0) {K : String} {i : Nat} {a : Addr} (hw : (Jvm.Cond.classLink own i K).before a0 Z = true) (hd : decode bytes pc = .ok (.checkcast i, 3)) (hs : st = .ref a :: rest) (F : Ins Z h a K true) (hp : pc + 3 = pc') (g : G w Q h k n pc' Ls st) : G w Q h k n pc Ls st := by
  subst hp; intro T locs X eT N
  obtain ⟨T', X', e', s'⟩ := castY X C.ex C.hZ C.ow hw eT F (g := mkF w.m pc Ls st) rfl hs (C.dec hd)
  exact G.to X' e' N s' g
theorem g_instY (C : Cx w l Z own bytes mx rt nm rm n0) {K : String} {i : Nat} {a : Addr} (hw : (Jvm.Cond.classLink own i K).before a0 Z = true) (hd : decode bytes pc = .ok (.instanceof i, 3)) (hs : st = .ref a :: rest) (F : Ins Z h a K true) (hp : pc + 3 = pc') (g : G w Q h k n pc' Ls (.int 1 :: rest)) : G w Q h k n pc Ls st := by
  subst hp; intro T locs X eT N
  obtain ⟨T', X', e', s'⟩ := instY X C.ex C.hZ C.ow hw eT F (g := mkF w.m pc Ls st) rfl hs (C.dec hd)
  exact G.to X' e' N s' g
theorem g_instN (C : Cx w l Z own bytes mx rt nm rm n0) {K B : String} {i : Nat} {a : Addr} (hw : (Jvm.Cond.classLink own i K).before a0 Z = true) (hd : decode bytes pc = .ok (.instanceof i, 3)) (hs : st = .ref a :: rest) (E : Exa Z h a B) (F : ∃ c t, Z.vm.findClass B = some c ∧ Z.vm.findClass K = some t ∧ Z.vm.assignable c t = false) (hp : pc + 3 = pc') (g : G w Q h k n pc' Ls (.int 0 :: rest)) : G w Q h k n pc Ls st := by
  subst hp; intro T locs X eT N
  obtain ⟨T', X', e', s'⟩ := instNo X C.ex C.hZ C.ow hw eT E F (g := mkF w.m pc Ls st) rfl hs (C.dec hd)
  exact G.to X' e' N s' g
theorem g_newP (C : Cx w l Z own bytes mx rt nm rm n0) {aty : ArrayType} {z : Int32} {cap : Nat} (hw : (Jvm.Cond.arrayClass (newarray.typeOf aty)).before a0 Z = true) (hd : decode bytes pc = .ok (.newarray aty, 2)) (hs : st = .int z :: rest) (hn : ¬ z < 0) (hcap : z.toNatClampNeg ≤ cap) (hb' : cap * 8 ≤ 536870912) (hc : k' ≤ rm.cells) (hl : n' ≤ rm.slots) (ek : k + 1 = k') (en : n + cap = n') (hp : pc + 2 = pc')
    (g : ∀ h' a kA, a = h.size → Ext h h' → Arv Z h' a kA (newarray.typeOf aty) z [] (defaultValue (newarray.typeOf aty)) → G w Q h' k' n' pc' Ls (.ref a :: rest)) : G w Q h k n pc Ls st := by
  subst hp ek en; intro T locs X eT N
  obtain ⟨T', h', kA, X', e', E, A, s'⟩ := newP X C.ex C.hZ hw eT (g := mkF w.m pc Ls st) rfl (C.dec hd) hs hn hcap hb' (by rw [C.ro]; exact hc) (by rw [C.ro]; exact hl)
  exact G.to X' e' N s' (g h' _ kA rfl E (Arv.new A hn))
theorem g_newR (C : Cx w l Z own bytes mx rt nm rm n0) {K : String} {i : Nat} {z : Int32} {cap : Nat} (hw : (Jvm.Cond.classLink own i K).before a0 Z = true) (w2 : (Jvm.Cond.arrayOver (.object K)).before a0 Z = true) (hd : decode bytes pc = .ok (.anewarray i, 3)) (hs : st = .int z :: rest) (hn : ¬ z < 0) (hcap : z.toNatClampNeg ≤ cap) (hb' : cap * 8 ≤ 536870912) (hc : k' ≤ rm.cells) (hl : n' ≤ rm.slots) (ek : k + 1 = k') (en : n + cap = n') (hp : pc + 3 = pc')
    (g : ∀ h' a kA, a = h.size → Ext h h' → Arv Z h' a kA (.object K) z [] .null → Ovr Z kA K → G w Q h' k' n' pc' Ls (.ref a :: rest)) : G w Q h k n pc Ls st := by
  subst hp ek en; intro T locs X eT N
  obtain ⟨T', h', kA, X', e', E, A, O, s'⟩ := newR X C.ex C.hZ C.ow hw w2 eT (g := mkF w.m pc Ls st) rfl (C.dec hd) hs hn hcap hb' (by rw [C.ro]; exact hc) (by rw [C.ro]; exact hl)
  exact G.to X' e' N s' (g h' _ kA rfl E (Arv.new A hn) O)
theorem g_newPE (C : Cx w l Z own bytes mx rt nm rm n0) {aty : ArrayType} {z : Int32} {cap : Nat} {ad : String} (hw : (Jvm.Cond.arrayClass (newarray.typeOf aty)).before a0 Z = true) (had : "[" ++ (newarray.typeOf aty).toString = ad) (hd : decode bytes pc = .ok (.newarray aty, 2)) (hs : st = .int z :: rest) (hn : ¬ z < 0) (hcap : z.toNatClampNeg ≤ cap) (hb' : cap * 8 ≤ 536870912) (hc : k' ≤ rm.cells) (hl : n' ≤ rm.slots) (ek : k + 1 = k') (en : n + cap = n') (hp : pc + 2 = pc')
    (g : ∀ h' a kA, a = h.size → Ext h h' → Arv Z h' a kA (newarray.typeOf aty) z [] (defaultValue (newarray.typeOf aty)) → Exa Z h' a ad → G w Q h' k' n' pc' Ls (.ref a :: rest)) : G w Q h k n pc Ls st := by
  subst hp ek en; intro T locs X eT N
  obtain ⟨T', h', kA, X', e', E, A, B, s'⟩ := newPE X C.ex C.hZ hw eT (g := mkF w.m pc Ls st) rfl (C.dec hd) hs hn hcap hb' (by rw [C.ro]; exact hc) (by rw [C.ro]; exact hl) had
  exact G.to X' e' N s' (g h' _ kA rfl E (Arv.new A hn) B)
theorem g_newRA (C : Cx w l Z own bytes mx rt nm rm n0) {K ad : String} {i : Nat} {ty : FieldType} {z : Int32} {cap : Nat} (hC : (FieldType.array ty).toString = K) (had : "[" ++ K = ad) (hw : (Jvm.Cond.classLink own i K).before a0 Z = true) (w2 : (Jvm.Cond.arrayOver (.array ty)).before a0 Z = true) (hd : decode bytes pc = .ok (.anewarray i, 3)) (hs : st = .int z :: rest) (hn : ¬ z < 0) (hcap : z.toNatClampNeg ≤ cap) (hb' : cap * 8 ≤ 536870912) (hc : k' ≤ rm.cells) (hl : n' ≤ rm.slots) (ek : k + 1 = k') (en : n + cap = n') (hp : pc + 3 = pc')
    (g : ∀ h' a kA, a = h.size → Ext h h' → Arv Z h' a kA (.array ty) z [] .null → Exa Z h' a ad → OvrA Z kA ty K → G w Q h' k' n' pc' Ls (.ref a :: rest)) : G w Q h k n pc Ls st := by
  subst hp ek en; intro T locs X eT N
  obtain ⟨T', h', kA, X', e', E, A, B, O, s'⟩ := newRA X C.ex C.hZ C.ow hC hw w2 eT (g := mkF w.m pc Ls st) rfl (C.dec hd) hs hn hcap hb' (by rw [C.ro]; exact hc) (by rw [C.ro]; exact hl) had
  exact G.to X' e' N s' (g h' _ kA rfl E (Arv.new A hn) B O)
theorem stoA {h : Heap} {a y : Addr} {kA : ClassId} {t0 ty : FieldType} {K : String} {z : Int32} {vs : List Value} {dv : Value} (A : Arv Z h a kA t0 z vs dv) (O : OvrA Z kA ty K) (E : Exa Z h y K) : Sto Z h a (.ref y) := by
  obtain ⟨c, Ar, q, -⟩ := A; exact Sto.ofVA Ar q O (Ins.self E)
theorem stoR {h : Heap} {a y : Addr} {kA : ClassId} {t0 : FieldType} {K : String} {z : Int32} {vs : List Value} {dv : Value} (A : Arv Z h a kA t0 z vs dv) (O : Ovr Z kA K) (I : Ins Z h y K true) : Sto Z h a (.ref y) := by
  obtain ⟨c, Ar, q, -⟩ := A; exact Sto.ofV Ar q O I
theorem g_cpA (C : Cx w l Z own bytes mx rt nm rm n0) {i : Nat} {a b : Addr} {k1 k2 : ClassId} {ty ty' : FieldType} {z z' sp dp nn : Int32} {vs vd us : List Value} {dv dd : Value}
    (w1 : (Jvm.Cond.methodLink own i Jvm.Stand.acN).before a0 Z = true) (w2 : (Jvm.Cond.native Jvm.Stand.acN).before a0 Z = true) (w3 : (Jvm.Cond.static Jvm.Stand.acN).before a0 Z = true) (w4 : (Jvm.Cond.initialized "java/lang/System").before a0 Z = true)
    (hd : decode bytes pc = .ok (.invokestatic i, 3)) (hs : st = .int nn :: .int dp :: .ref b :: .int sp :: .ref a :: rest) (hz : Ls.size = mx) (A : Arv Z h a k1 ty z vs dv) (B : Arv Z h b k2 ty' z' vd dd) (hty : (ty = ty' ∧ refKind ty = false) ∨ (refKind ty = true ∧ refKind ty' = true ∧ StoL Z h b us))
    (h1 : ¬ sp < 0) (h2 : ¬ dp < 0) (h3 : ¬ nn < 0) (h4 : sp.toNatClampNeg + nn.toNatClampNeg ≤ z.toNatClampNeg) (h5 : dp.toNatClampNeg + nn.toNatClampNeg ≤ z'.toNatClampNeg) (hus : us = (List.range nn.toNatClampNeg).map fun i => vs.getD (sp.toNatClampNeg + i) dv) (hlen : dp.toNatClampNeg + nn.toNatClampNeg ≤ vd.length) (ge : n0 ≤ b)
    (hf : 1 ≤ rm.frames) (hlo : (rest.map fun v => v.category).sum + (nativeFrameWords "java/lang/System" "arraycopy" 5 + 11) ≤ rm.locals) (hp : pc + 3 = pc')
    (g : ∀ h', Keep h h' [b] → Arv Z h' b k2 ty' z' (vd.take dp.toNatClampNeg ++ us ++ vd.drop (dp.toNatClampNeg + nn.toNatClampNeg)) dd → G w Q h' k n pc' Ls rest) : G w Q h k n pc Ls st := by
  subst hp; intro T locs X eT N
  obtain ⟨T', h', L, X', e', N', K, A', s'⟩ := cpA X C.ex C.hZ C.ow w1 w2 w3 w4 eT A B hty h1 h2 h3 h4 h5 hus hlen (n0 := w.n0) N (C.nn ▸ ge) (g := mkF w.m pc Ls st) rfl (hz.trans C.ml.symm) hs (C.dec hd) (by rw [C.ro]; exact hf) (W := (rest.map fun v => v.category).sum) (by show 2 * 0 + _ ≤ _; omega) (by rw [C.ro]; exact hlo)
  exact G.to X' e' N' s' (g h' K A')
/-! arrays by their values: an array fact (Arv) with a list of all its values -/
theorem arv_inb {a : Addr} {kA : ClassId} {ty : FieldType} {z j : Int32} {vs : List Value} {dv : Value} (A : Arv Z h a kA ty z vs dv) (q1 : ¬ j < 0) (q2 : j < z) : ∃ cl, Arr Z h a cl ty ∧ ¬ (j < 0 ∨ cl.slots.size ≤ j.toNatClampNeg) ∧ cl.slots[j.toNatClampNeg]? = some (vs.getD j.toNatClampNeg dv) := by
  obtain ⟨cl, Ar, -, S, -, H, -⟩ := A
  have hi := inb_of S ⟨q1, q2⟩
  exact ⟨cl, Ar, hi, H.at hi rfl⟩
theorem arv_put {h' : Heap} {a : Addr} {kA : ClassId} {ty : FieldType} {z j : Int32} {vs : List Value} {dv v : Value} (A : Arv Z h a kA ty z vs dv) (hv : fits ty v = true) (W : Wr h h' a j.toNatClampNeg v) {i : Nat} (hj : j.toNatClampNeg = i) (hi : i < vs.length) : Arv Z h' a kA ty z (vs.set i v) dv := by
  obtain ⟨cl, Ar, q1, S, q3, H, F⟩ := A
  exact Arv.set Ar q1 S q3 H F hv W i hj hi

theorem g_iaload (C : Cx w l Z own bytes mx rt nm rm n0) {a : Addr} {kA : ClassId} {z j : Int32} {vs : List Value} {dv : Value} {x : Int32} (hd : decode bytes pc = .ok (.iaload, 1)) (hs : st = .int j :: .ref a :: rest) (A : Arv Z h a kA .int z vs dv) (q1 : ¬ j < 0) (q2 : j < z) (hv : vs.getD j.toNatClampNeg dv = .int x) (hp : pc + 1 = pc') (g : G w Q h k n pc' Ls (.int x :: rest)) : G w Q h k n pc Ls st := by
  subst hp; intro T locs X eT N
  obtain ⟨cl, Ar, hi, hg⟩ := arv_inb A q1 q2
  rw [hv] at hg
  exact G.to X eT N (fun t r => X.iaload C.ex (j := j) (v := .int x) (by rw [eT]; exact Ar.1) (State.isArrayOf_alike C.hZ.alike Ar.2.1) Ar.2.2 hi hg (g := mkF w.m pc Ls st) rfl hs (C.dec hd) _ r) g
theorem g_laload (C : Cx w l Z own bytes mx rt nm rm n0) {a : Addr} {kA : ClassId} {z j : Int32} {vs : List Value} {dv : Value} {x : Int64} (hd : decode bytes pc = .ok (.laload, 1)) (hs : st = .int j :: .ref a :: rest) (A : Arv Z h a kA .long z vs dv) (q1 : ¬ j < 0) (q2 : j < z) (hv : vs.getD j.toNatClampNeg dv = .long x) (hp : pc + 1 = pc') (g : G w Q h k n pc' Ls (.long x :: rest)) : G w Q h k n pc Ls st := by
  subst hp; intro T locs X eT N
  obtain ⟨cl, Ar, hi, hg⟩ := arv_inb A q1 q2
  rw [hv] at hg
  exact G.to X eT N (fun t r => X.laload C.ex (j := j) (v := .long x) (by rw [eT]; exact Ar.1) (State.isArrayOf_alike C.hZ.alike Ar.2.1) Ar.2.2 hi hg (g := mkF w.m pc Ls st) rfl hs (C.dec hd) _ r) g
theorem g_baload (C : Cx w l Z own bytes mx rt nm rm n0) {a : Addr} {kA : ClassId} {z j : Int32} {vs : List Value} {dv : Value} {x : Int32} (hd : decode bytes pc = .ok (.baload, 1)) (hs : st = .int j :: .ref a :: rest) (A : Arv Z h a kA .byte z vs dv) (q1 : ¬ j < 0) (q2 : j < z) (hv : vs.getD j.toNatClampNeg dv = .int x) (hp : pc + 1 = pc') (g : G w Q h k n pc' Ls (.int x :: rest)) : G w Q h k n pc Ls st := by
  subst hp; intro T locs X eT N
  obtain ⟨cl, Ar, hi, hg⟩ := arv_inb A q1 q2
  rw [hv] at hg
  exact G.to X eT N (fun t r => X.baloadBytes C.ex (j := j) (v := .int x) (by rw [eT]; exact Ar.1) (State.isArrayOf_alike C.hZ.alike Ar.2.1) Ar.2.2 hi hg (g := mkF w.m pc Ls st) rfl hs (C.dec hd) _ r) g
theorem g_aaload (C : Cx w l Z own bytes mx rt nm rm n0) {a : Addr} {kA : ClassId} {ty : FieldType} {z j : Int32} {vs : List Value} {dv x : Value} (hd : decode bytes pc = .ok (.aaload, 1)) (hs : st = .int j :: .ref a :: rest) (A : Arv Z h a kA ty z vs dv) (hty : ty.isReference = true) (q1 : ¬ j < 0) (q2 : j < z) (hv : vs.getD j.toNatClampNeg dv = x) (hp : pc + 1 = pc') (g : G w Q h k n pc' Ls (x :: rest)) : G w Q h k n pc Ls st := by
  subst hp; intro T locs X eT N
  obtain ⟨cl, Ar, hi, hg⟩ := arv_inb A q1 q2
  rw [hv] at hg
  exact G.to X eT N (fun t r => X.aaload C.ex (j := j) (v := x) (by rw [eT]; exact Ar.1) (State.isArrayOf_alike C.hZ.alike Ar.2.1) hty Ar.2.2 hi hg (g := mkF w.m pc Ls st) rfl hs (C.dec hd) _ r) g
theorem g_alen (C : Cx w l Z own bytes mx rt nm rm n0) {a : Addr} {kA : ClassId} {ty : FieldType} {z : Int32} {vs : List Value} {dv : Value} (hd : decode bytes pc = .ok (.arraylength, 1)) (hs : st = .ref a :: rest) (A : Arv Z h a kA ty z vs dv) (hp : pc + 1 = pc') (g : G w Q h k n pc' Ls (.int z :: rest)) : G w Q h k n pc Ls st := by
  subst hp; intro T locs X eT N
  obtain ⟨cl, Ar, -, S, q3, -, -⟩ := A
  exact G.to X eT N (fun t r => X.arraylength C.ex (by rw [eT]; exact Ar.1) (State.isArrayOf_alike C.hZ.alike Ar.2.1) (g := mkF w.m pc Ls st) rfl hs (C.dec hd) _ (by rw [len_of S q3]; exact r)) g

theorem g_iastore (C : Cx w l Z own bytes mx rt nm rm n0) {a : Addr} {kA : ClassId} {z j : Int32} {vs : List Value} {dv : Value} {x : Int32} (hd : decode bytes pc = .ok (.iastore, 1)) (hs : st = .int x :: .int j :: .ref a :: rest) (A : Arv Z h a kA .int z vs dv) (q1 : ¬ j < 0) (q2 : j < z) (ge : n0 ≤ a) (hp : pc + 1 = pc')
    (g : ∀ h', Wr h h' a j.toNatClampNeg (.int x) → G w Q h' k n pc' Ls rest) : G w Q h k n pc Ls st := by
  subst hp; intro T locs X eT N
  obtain ⟨cl, Ar, hi, -⟩ := arv_inb A q1 q2
  obtain ⟨T', h', X', e', W, s'⟩ := stI X C.ex C.hZ eT Ar (j := j) hi (g := mkF w.m pc Ls st) rfl hs (C.dec hd)
  exact G.to X' e' (fr_snoc N (C.nn ▸ ge)) s' (g h' W)
theorem g_lastore (C : Cx w l Z own bytes mx rt nm rm n0) {a : Addr} {kA : ClassId} {z j : Int32} {vs : List Value} {dv : Value} {x : Int64} (hd : decode bytes pc = .ok (.lastore, 1)) (hs : st = .long x :: .int j :: .ref a :: rest) (A : Arv Z h a kA .long z vs dv) (q1 : ¬ j < 0) (q2 : j < z) (ge : n0 ≤ a) (hp : pc + 1 = pc')
    (g : ∀ h', Wr h h' a j.toNatClampNeg (.long x) → G w Q h' k n pc' Ls rest) : G w Q h k n pc Ls st := by
  subst hp; intro T locs X eT N
  obtain ⟨cl, Ar, hi, -⟩ := arv_inb A q1 q2
  obtain ⟨T', h', X', e', W, s'⟩ := stJ X C.ex C.hZ eT Ar (j := j) hi (g := mkF w.m pc Ls st) rfl hs (C.dec hd)
  exact G.to X' e' (fr_snoc N (C.nn ▸ ge)) s' (g h' W)
theorem g_bastore (C : Cx w l Z own bytes mx rt nm rm n0) {a : Addr} {kA : ClassId} {z j : Int32} {vs : List Value} {dv : Value} {x : Int32} (hd : decode bytes pc = .ok (.bastore, 1)) (hs : st = .int x :: .int j :: .ref a :: rest) (A : Arv Z h a kA .byte z vs dv) (q1 : ¬ j < 0) (q2 : j < z) (ge : n0 ≤ a) (hp : pc + 1 = pc')
    (g : ∀ h', Wr h h' a j.toNatClampNeg (.int (nar .byte x)) → G w Q h' k n pc' Ls rest) : G w Q h k n pc Ls st := by
  subst hp; intro T locs X eT N
  obtain ⟨cl, Ar, hi, -⟩ := arv_inb A q1 q2
  obtain ⟨T', h', X', e', W, s'⟩ := stB X C.ex C.hZ eT Ar (j := j) hi (g := mkF w.m pc Ls st) rfl hs (C.dec hd)
  exact G.to X' e' (fr_snoc N (C.nn ▸ ge)) s' (g h' W)
theorem g_aastore (C : Cx w l Z own bytes mx rt nm rm n0) {a : Addr} {kA : ClassId} {ty : FieldType} {z j : Int32} {vs : List Value} {dv x : Value} (hd : decode bytes pc = .ok (.aastore, 1)) (hs : st = x :: .int j :: .ref a :: rest) (A : Arv Z h a kA ty z vs dv) (hty : ty.isReference = true) (F : Sto Z h a x) (q1 : ¬ j < 0) (q2 : j < z) (ge : n0 ≤ a) (hp : pc + 1 = pc')
    (g : ∀ h', Wr h h' a j.toNatClampNeg x → G w Q h' k n pc' Ls rest) : G w Q h k n pc Ls st := by
  subst hp; intro T locs X eT N
  obtain ⟨cl, Ar, hi, -⟩ := arv_inb A q1 q2
  obtain ⟨T', h', X', e', W, s'⟩ := stR X C.ex C.hZ eT Ar (j := j) hi hty F (g := mkF w.m pc Ls st) rfl hs (C.dec hd)
  exact G.to X' e' (fr_snoc N (C.nn ▸ ge)) s' (g h' W)
/-! returns -/
theorem g_ret (C : Cx w l Z own bytes mx (some t) nm rm n0) {v : Value} {i : Instr} (hd : decode bytes pc = .ok (i, 1)) (hs : st = v :: rest) (hn : narrow t v = v)
    (hi : (i = .ireturn ∧ (t = .int ∨ t = .boolean ∨ t = .byte ∨ t = .char ∨ t = .short) ∧ ∃ z, v = .int z) ∨ (i = .lreturn ∧ t = .long ∧ ∃ z, v = .long z) ∨ (i = .dreturn ∧ t = .double ∧ ∃ z, v = .double z) ∨ (i = .freturn ∧ t = .float ∧ ∃ z, v = .float z) ∨ (i = .areturn ∧ t.isReference = true ∧ v.isRef = true))
    (hk : k ≤ rm.cells) (hnn : n ≤ rm.slots) (q : Q (some v) h) : G w Q h k n pc Ls st := by
  subst hs; intro T locs X eT N
  obtain ⟨fs, hr, hrun, hended, hW, hsame⟩ := X.leave (v := some v) (fun h => by rw [C.ret] at h; cases h) C.lk
  exact ⟨_, _, retOut X C.ex C.ret hn hi (C.dec hd) hr, hrun, hended, _, locs, rfl, ⟨by show Q _ T.heap; rw [eT]; exact q, N⟩, ⟨_, rfl⟩, hW, hsame.mono (by rw [C.ro]; exact hk) (by rw [C.ro]; exact hnn)⟩
theorem g_ireturn (C : Cx w l Z own bytes mx (some .int) nm rm n0) {z : Int32} (hd : decode bytes pc = .ok (.ireturn, 1)) (hs : st = .int z :: rest) (hk : k ≤ rm.cells) (hnn : n ≤ rm.slots) (q : Q (some (.int z)) h) : G w Q h k n pc Ls st :=
  g_ret C hd hs rfl (Or.inl ⟨rfl, Or.inl rfl, z, rfl⟩) hk hnn q
theorem g_zreturn (C : Cx w l Z own bytes mx (some .boolean) nm rm n0) {z : Int32} (hd : decode bytes pc = .ok (.ireturn, 1)) (hs : st = .int z :: rest) (hn : narrow .boolean (.int z) = .int z) (hk : k ≤ rm.cells) (hnn : n ≤ rm.slots) (q : Q (some (.int z)) h) : G w Q h k n pc Ls st :=
  g_ret C hd hs hn (Or.inl ⟨rfl, Or.inr (Or.inl rfl), z, rfl⟩) hk hnn q
theorem g_breturn (C : Cx w l Z own bytes mx (some .byte) nm rm n0) {z : Int32} (hd : decode bytes pc = .ok (.ireturn, 1)) (hs : st = .int z :: rest) (hn : narrow .byte (.int z) = .int z) (hk : k ≤ rm.cells) (hnn : n ≤ rm.slots) (q : Q (some (.int z)) h) : G w Q h k n pc Ls st :=
  g_ret C hd hs hn (Or.inl ⟨rfl, Or.inr (Or.inr (Or.inl rfl)), z, rfl⟩) hk hnn q
theorem g_lreturn (C : Cx w l Z own bytes mx (some .long) nm rm n0) {z : Int64} (hd : decode bytes pc = .ok (.lreturn, 1)) (hs : st = .long z :: rest) (hk : k ≤ rm.cells) (hnn : n ≤ rm.slots) (q : Q (some (.long z)) h) : G w Q h k n pc Ls st :=
  g_ret C hd hs rfl (Or.inr (Or.inl ⟨rfl, rfl, z, rfl⟩)) hk hnn q
theorem g_areturn (C : Cx w l Z own bytes mx (some t) nm rm n0) {v : Value} (hd : decode bytes pc = .ok (.areturn, 1)) (hs : st = v :: rest) (ht : t.isReference = true) (hv : v.isRef = true) (hn : narrow t v = v) (hk : k ≤ rm.cells) (hnn : n ≤ rm.slots) (q : Q (some v) h) : G w Q h k n pc Ls st :=
  g_ret C hd hs hn (Or.inr (Or.inr (Or.inr (Or.inr ⟨rfl, ht, hv⟩)))) hk hnn q
theorem g_return (C : Cx w l Z own bytes mx none nm rm n0) (hd : decode bytes pc = .ok (.return_, 1)) (hs : st = []) (hk : k ≤ rm.cells) (hnn : n ≤ rm.slots) (q : Q none h) : G w Q h k n pc Ls st := by
  subst hs; intro T locs X eT N
  obtain ⟨fs, hr, hrun, hended, hW, hsame⟩ := X.leave (v := none) (fun _ => rfl) C.lk
  exact ⟨_, _, X.returnOut C.ex C.ret (C.dec hd) hr, hrun, hended, _, locs, rfl, ⟨by show Q _ T.heap; rw [eT]; exact q, N⟩, ⟨_, rfl⟩, hW, hsame.mono (by rw [C.ro]; exact hk) (by rw [C.ro]; exact hnn)⟩
/-! calls by the callee's contract -/
theorem g_fin {rm' : Room} {Q' : Option Value → Heap → Prop} {T : State} {locs : List Loc} {as : Array Value} {v : Option Value} {B : Pt} {A : Pt} (C : Cx w l Z own bytes mx rt nm rm n0) (hA : A.locs = locs ∧ A.cells = k ∧ A.slots = n)
    (X' : Stand w.p w.l w.e w.R w.s w.m w.args w.below w.meth w.c B.U B.locs B.cells B.slots) (hQ : ∃ L, (Q' v B.U.heap ∧ Fr n0 L) ∧ B.locs = A.locs ++ L ∧ B.cells = A.cells + rm'.cells ∧ B.slots = A.slots + rm'.slots) (N : Fr w.n0 locs)
    (g : ∀ v h', Q' v h' → G w Q h' (k + rm'.cells) (n + rm'.slots) pc' Ls (psh v rest)) (s' : ∀ t, Steps w.p.tables w.e w.below (B.U.setTop (mkF w.m pc' Ls (v.toList ++ rest))) t → Steps w.p.tables w.e w.below (T.setTop (mkF w.m pc Ls st)) t) : Ends w Q (T.setTop (mkF w.m pc Ls st)) := by
  obtain ⟨T', L', k', n'⟩ := B
  obtain ⟨L, ⟨hq, hL⟩, e1, e2, e3⟩ := hQ
  obtain ⟨a1, a2, a3⟩ := hA
  dsimp only [Pt.U, Pt.locs, Pt.cells, Pt.slots] at X' hq e1 e2 e3 s' a1 a2 a3
  subst a1 a2 a3 e1 e2 e3
  rw [psh_eq] at s'
  exact G.to X' rfl (N.app (C.nn ▸ hL)) s' (g v _ hq)
theorem g_callS (C : Cx w l Z own bytes mx rt nm rm n0) {y : MethodName} {i mL : Nat} {bs : ByteArray} {rt' : Option FieldType} {rm' : Room} {Q' : Option Value → Heap → Prop} {argsL : List Value} {ps : List FieldType} {r : Option FieldType}
    (w1 : (Jvm.Cond.methodLink own i y).before a0 Z = true) (w2 : (Jvm.Cond.static y).before a0 Z = true) (w3 : (Jvm.Cond.initialized y.cls).before a0 Z = true) (w4 : (Jvm.Cond.code y bs mL rt').before a0 Z = true) (hy : y.cls ≠ "java/lang/invoke/MethodHandle" ∧ y.cls ≠ "java/lang/invoke/VarHandle")
    (hd : decode bytes pc = .ok (.invokestatic i, 3)) (pd : parseMethodDescriptor y.desc = some ⟨ps, r⟩) (hlen : argsL.length = ps.length) (hst : st = argsL.reverse ++ rest) (hz : Ls.size = mx)
    (K : Con l Z y bs mL rt' rm' argsL.toArray h n0 Q') (hf : rm'.frames + 1 ≤ rm.frames) (hl : (rest.map fun v => v.category).sum + (mL + 11) + rm'.locals ≤ rm.locals) (hc : k' ≤ rm.cells) (hn : n' ≤ rm.slots) (ek : k + rm'.cells = k') (en : n + rm'.slots = n') (hp : pc + 3 = pc')
    (g : ∀ v h', Q' v h' → G w Q h' k' n' pc' Ls (psh v rest)) : G w Q h k n pc Ls st := by
  subst hp ek en; intro T locs X eT N
  have hl0 : w.l = l := C.1
  subst hl0
  obtain ⟨v, vm₁, B, -, X', hQ, s'⟩ := Jvm.LawKit.callS X C.ex C.ow (mvT C.hZ w1) (mvT C.hZ w2) (mvT C.hZ w3) (mvT C.hZ w4) hy (backOf (W := (rest.map fun v => v.category).sum) (Q := fun v h L => Q' v h ∧ Fr n0 L) (K []) C.hZ w4 w3 (by rw [C.ro]; exact hf) (by rw [C.ro]; exact hl)) (g := mkF w.m pc Ls st) rfl (hz.trans C.ml.symm) (argsL := argsL) (rest := rest) (lenOf pd hlen) hst (by show 2 * 0 + _ ≤ _; omega) (C.dec hd) (fun _ _ => ⟨rfl, eT, by rw [C.ro]; exact hc, by rw [C.ro]; exact hn⟩)
  exact g_fin (T := T) (as := argsL.toArray) (A := (⟨T.setVm vm₁, locs, k, n⟩ : Pt)) C ⟨rfl, rfl, rfl⟩ X' hQ N g s'
theorem g_special (C : Cx w l Z own bytes mx rt nm rm n0) {y : MethodName} {i mL : Nat} {bs : ByteArray} {rm' : Room} {Q' : Option Value → Heap → Prop} {a : Addr} {argsL : List Value} {ps : List FieldType} {r : Option FieldType}
    (w1 : (Jvm.Cond.methodLink own i y).before a0 Z = true) (w2 : (Jvm.Cond.instanceMethod y).before a0 Z = true) (w3 : (Jvm.Cond.initialized y.cls).before a0 Z = true) (w4 : (Jvm.Cond.code y bs mL none).before a0 Z = true) (hy : y.cls ≠ "java/lang/invoke/MethodHandle" ∧ y.cls ≠ "java/lang/invoke/VarHandle") (hy1 : y.name = "<init>")
    (hd : decode bytes pc = .ok (.invokespecial i, 3)) (pd : parseMethodDescriptor y.desc = some ⟨ps, r⟩) (hlen : argsL.length = ps.length) (hst : st = argsL.reverse ++ .ref a :: rest) (hz : Ls.size = mx)
    (K : Con l Z y bs mL none rm' (.ref a :: argsL).toArray h n0 Q') (hf : rm'.frames + 1 ≤ rm.frames) (hl : (rest.map fun v => v.category).sum + (mL + 11) + rm'.locals ≤ rm.locals) (hc : k' ≤ rm.cells) (hn : n' ≤ rm.slots) (ek : k + rm'.cells = k') (en : n + rm'.slots = n') (hp : pc + 3 = pc')
    (g : ∀ v h', Q' v h' → G w Q h' k' n' pc' Ls (psh v rest)) : G w Q h k n pc Ls st := by
  subst hp ek en; intro T locs X eT N
  have hl0 : w.l = l := C.1
  subst hl0
  obtain ⟨v, vm₁, B, -, X', hQ, s'⟩ := X.specialBack C.ex hy1 C.ow (mvT C.hZ w1) (mvT C.hZ w2) (mvT C.hZ w4) hy (backOf (W := (rest.map fun v => v.category).sum) (Q := fun v h L => Q' v h ∧ Fr n0 L) (K []) C.hZ w4 w3 (by rw [C.ro]; exact hf) (by rw [C.ro]; exact hl)) (g := mkF w.m pc Ls st) rfl (hz.trans C.ml.symm) (Steps.refl _) (a := a) (argsL := argsL) (rest := rest) (lenOf pd hlen) hst (by show 2 * 0 + _ ≤ _; omega) (C.dec hd) (fun _ _ => ⟨rfl, eT, by rw [C.ro]; exact hc, by rw [C.ro]; exact hn⟩)
  exact g_fin (T := T) (as := argsL.toArray) (A := (⟨T.setVm vm₁, locs, k, n⟩ : Pt)) C ⟨rfl, rfl, rfl⟩ X' hQ N g (fun t r => s'.trans r)
theorem g_virtual (C : Cx w l Z own bytes mx rt nm rm n0) {y z : MethodName} {B : String} {i mL : Nat} {bs : ByteArray} {rt' : Option FieldType} {rm' : Room} {Q' : Option Value → Heap → Prop} {a : Addr} {argsL : List Value} {ps : List FieldType} {r : Option FieldType}
    (w1 : (Jvm.Cond.methodLink own i y).before a0 Z = true) (w2 : (Jvm.Cond.declares y).before a0 Z = true) (nf : ∀ {s : State}, Z.Warmed39 s.vm → NotFace s y) (ws : (Jvm.Cond.selects B y z).before a0 Z = true) (w5 : (Jvm.Cond.instanceMethod z).before a0 Z = true) (w3 : (Jvm.Cond.initialized z.cls).before a0 Z = true) (w4 : (Jvm.Cond.code z bs mL rt').before a0 Z = true) (hy : y.cls ≠ "java/lang/invoke/MethodHandle" ∧ y.cls ≠ "java/lang/invoke/VarHandle")
    (hd : decode bytes pc = .ok (.invokevirtual i, 3)) (pd : parseMethodDescriptor y.desc = some ⟨ps, r⟩) (hlen : argsL.length = ps.length) (hst : st = argsL.reverse ++ .ref a :: rest) (hz : Ls.size = mx) (E : Exa Z h a B)
    (K : Con l Z z bs mL rt' rm' (.ref a :: argsL).toArray h n0 Q') (hf : rm'.frames + 1 ≤ rm.frames) (hl : (rest.map fun v => v.category).sum + (mL + 11) + rm'.locals ≤ rm.locals) (hc : k' ≤ rm.cells) (hn : n' ≤ rm.slots) (ek : k + rm'.cells = k') (en : n + rm'.slots = n') (hp : pc + 3 = pc')
    (g : ∀ v h', Q' v h' → G w Q h' k' n' pc' Ls (psh v rest)) : G w Q h k n pc Ls st := by
  subst hp ek en; intro T locs X eT N
  have hl0 : w.l = l := C.1
  subst hl0
  obtain ⟨cq, kq, q1, q2, q3⟩ := isOf C.hZ eT E
  obtain ⟨v, vm₁, B, -, X', hQ, s'⟩ := X.virtualBack C.ex C.ow (mvT C.hZ w1) (mvT C.hZ w2) (nf C.hZ) (mvT C.hZ ws) (mvT C.hZ w5) hy (backOf (W := (rest.map fun v => v.category).sum) (Q := fun v h L => Q' v h ∧ Fr n0 L) (K []) C.hZ w4 w3 (by rw [C.ro]; exact hf) (by rw [C.ro]; exact hl)) q1 q3 (g := mkF w.m pc Ls st) rfl (hz.trans C.ml.symm) (Steps.refl _) (argsL := argsL) (rest := rest) (lenOf pd hlen) hst (by show 2 * 0 + _ ≤ _; omega) (C.dec hd) (fun _ _ => ⟨rfl, eT, by rw [C.ro]; exact hc, by rw [C.ro]; exact hn⟩)
  exact g_fin (T := T) (as := argsL.toArray) (A := (⟨T.setVm vm₁, locs, k, n⟩ : Pt)) C ⟨rfl, rfl, rfl⟩ X' hQ N g (fun t r => s'.trans r)
theorem nfSel {y : MethodName} {B : String} (ws : (Jvm.Cond.selects B y y).before a0 Z = true) : ∀ {s : State}, Z.Warmed39 s.vm → NotFace s y := fun hZ => notFace_of_selects (args := #[]) (mvT hZ ws)
theorem g_virtualUp (C : Cx w l Z own bytes mx rt nm rm n0) {y z : MethodName} {B owner : String} {i mL : Nat} {bs : ByteArray} {rt' : Option FieldType} {rm' : Room} {Q' : Option Value → Heap → Prop} {a : Addr} {argsL : List Value} {ps : List FieldType} {r : Option FieldType}
    (w1 : (Jvm.Cond.methodLink own i y).before a0 Z = true) (wm : (Jvm.Cond.sameMethod y.cls owner y.name y.desc).before a0 Z = true) (w2 : (Jvm.Cond.declares ⟨owner, y.name, y.desc⟩).before a0 Z = true) (ho : owner ≠ "java/lang/invoke/MethodHandle" ∧ owner ≠ "java/lang/invoke/VarHandle") (ws : (Jvm.Cond.selects B y z).before a0 Z = true) (w5 : (Jvm.Cond.instanceMethod z).before a0 Z = true) (w3 : (Jvm.Cond.initialized z.cls).before a0 Z = true) (w4 : (Jvm.Cond.code z bs mL rt').before a0 Z = true)
    (hd : decode bytes pc = .ok (.invokevirtual i, 3)) (pd : parseMethodDescriptor y.desc = some ⟨ps, r⟩) (hlen : argsL.length = ps.length) (hst : st = argsL.reverse ++ .ref a :: rest) (hz : Ls.size = mx) (E : Exa Z h a B)
    (K : Con l Z z bs mL rt' rm' (.ref a :: argsL).toArray h n0 Q') (hf : rm'.frames + 1 ≤ rm.frames) (hl : (rest.map fun v => v.category).sum + (mL + 11) + rm'.locals ≤ rm.locals) (hc : k' ≤ rm.cells) (hn : n' ≤ rm.slots) (ek : k + rm'.cells = k') (en : n + rm'.slots = n') (hp : pc + 3 = pc')
    (g : ∀ v h', Q' v h' → G w Q h' k' n' pc' Ls (psh v rest)) : G w Q h k n pc Ls st := by
  subst hp ek en; intro T locs X eT N
  have hl0 : w.l = l := C.1
  subst hl0
  obtain ⟨cq, kq, q1, q2, q3⟩ := isOf C.hZ eT E
  obtain ⟨v, vm₁, B, -, X', hQ, s'⟩ := X.virtualBackUp C.ex C.ow (mvT C.hZ w1) (mvT C.hZ wm) (mvT C.hZ w2) ho (mvT C.hZ ws) (mvT C.hZ w5) (backOf (W := (rest.map fun v => v.category).sum) (Q := fun v h L => Q' v h ∧ Fr n0 L) (K []) C.hZ w4 w3 (by rw [C.ro]; exact hf) (by rw [C.ro]; exact hl)) q1 q3 (g := mkF w.m pc Ls st) rfl (hz.trans C.ml.symm) (Steps.refl _) (argsL := argsL) (rest := rest) (lenOf pd hlen) hst (by show 2 * 0 + _ ≤ _; omega) (C.dec hd) (fun _ _ => ⟨rfl, eT, by rw [C.ro]; exact hc, by rw [C.ro]; exact hn⟩)
  exact g_fin (T := T) (as := argsL.toArray) (A := (⟨T.setVm vm₁, locs, k, n⟩ : Pt)) C ⟨rfl, rfl, rfl⟩ X' hQ N g (fun t r => s'.trans r)
theorem g_interface (C : Cx w l Z own bytes mx rt nm rm n0) {y z : MethodName} {B : String} {count : Nat} {i mL : Nat} {bs : ByteArray} {rt' : Option FieldType} {rm' : Room} {Q' : Option Value → Heap → Prop} {a : Addr} {argsL : List Value} {ps : List FieldType} {r : Option FieldType}
    (w1 : (Jvm.Cond.methodLink own i y).before a0 Z = true) (w2 : (Jvm.Cond.declares y).before a0 Z = true) (wf : (Jvm.Cond.interfaceMethod y.cls y.cls y.name y.desc).before a0 Z = true) (hfa : ((Jvm.Cond.interfaceMethod y.cls y.cls y.name y.desc).onTables && (Jvm.Cond.interfaceMethod y.cls y.cls y.name y.desc).keepsFace) = true) (ws : (Jvm.Cond.selects B y z).before a0 Z = true) (w5 : (Jvm.Cond.instanceMethod z).before a0 Z = true) (wp : (Jvm.Cond.publicMethod z).before a0 Z = true) (wu : (Jvm.Cond.unhidden B y.name y.desc).before a0 Z = true) (wk : (Jvm.Cond.castable B y.cls).before a0 Z = true) (w3 : (Jvm.Cond.initialized z.cls).before a0 Z = true) (w4 : (Jvm.Cond.code z bs mL rt').before a0 Z = true) (hy : y.cls ≠ "java/lang/invoke/MethodHandle" ∧ y.cls ≠ "java/lang/invoke/VarHandle")
    (hd : decode bytes pc = .ok (.invokeinterface i count, 5)) (pd : parseMethodDescriptor y.desc = some ⟨ps, r⟩) (hlen : argsL.length = ps.length) (hst : st = argsL.reverse ++ .ref a :: rest) (hz : Ls.size = mx) (E : Exa Z h a B)
    (K : Con l Z z bs mL rt' rm' (.ref a :: argsL).toArray h n0 Q') (hf : rm'.frames + 1 ≤ rm.frames) (hl : (rest.map fun v => v.category).sum + (mL + 11) + rm'.locals ≤ rm.locals) (hc : k' ≤ rm.cells) (hn : n' ≤ rm.slots) (ek : k + rm'.cells = k') (en : n + rm'.slots = n') (hp : pc + 5 = pc')
    (g : ∀ v h', Q' v h' → G w Q h' k' n' pc' Ls (psh v rest)) : G w Q h k n pc Ls st := by
  subst hp ek en; intro T locs X eT N
  have hl0 : w.l = l := C.1
  subst hl0
  obtain ⟨cq, kq, q1, q2, q3⟩ := isOf C.hZ eT E
  obtain ⟨v, vm₁, B, -, X', hQ, s'⟩ := X.interfaceBack C.ex C.ow (mvT C.hZ w1) (mvT C.hZ w2) (mvT C.hZ wf hfa) (mvT C.hZ ws) (mvT C.hZ w5) (mvT C.hZ wp) (mvT C.hZ wu) (mvT C.hZ wk) hy (backOf (W := (rest.map fun v => v.category).sum) (Q := fun v h L => Q' v h ∧ Fr n0 L) (K []) C.hZ w4 w3 (by rw [C.ro]; exact hf) (by rw [C.ro]; exact hl)) q1 q2 q3 (g := mkF w.m pc Ls st) rfl (hz.trans C.ml.symm) (Steps.refl _) (argsL := argsL) (rest := rest) (lenOf pd hlen) hst (by show 2 * 0 + _ ≤ _; omega) (C.dec hd) (fun _ _ => ⟨rfl, eT, by rw [C.ro]; exact hc, by rw [C.ro]; exact hn⟩)
  exact g_fin (T := T) (as := argsL.toArray) (A := (⟨T.setVm vm₁, locs, k, n⟩ : Pt)) C ⟨rfl, rfl, rfl⟩ X' hQ N g (fun t r => s'.trans r)
theorem g_private (C : Cx w l Z own bytes mx rt nm rm n0) {y : MethodName} {B : String} {kk i mL : Nat} {bs : ByteArray} {rt' : Option FieldType} {rm' : Room} {Q' : Option Value → Heap → Prop} {a : Addr} {argsL : List Value} {ps : List FieldType} {r : Option FieldType}
    (w1 : (Jvm.Cond.methodLink own i y).before a0 Z = true) (w5 : (Jvm.Cond.instanceMethod y).before a0 Z = true) (wi : (Jvm.Cond.instantiable y.cls kk).before a0 Z = true) (wp : (Jvm.Cond.privateMethod y).before a0 Z = true) (w3 : (Jvm.Cond.initialized y.cls).before a0 Z = true) (w4 : (Jvm.Cond.code y bs mL rt').before a0 Z = true) (hy : y.cls ≠ "java/lang/invoke/MethodHandle" ∧ y.cls ≠ "java/lang/invoke/VarHandle")
    (hd : decode bytes pc = .ok (.invokevirtual i, 3)) (pd : parseMethodDescriptor y.desc = some ⟨ps, r⟩) (hlen : argsL.length = ps.length) (hst : st = argsL.reverse ++ .ref a :: rest) (hz : Ls.size = mx) (E : Exa Z h a B)
    (K : Con l Z y bs mL rt' rm' (.ref a :: argsL).toArray h n0 Q') (hf : rm'.frames + 1 ≤ rm.frames) (hl : (rest.map fun v => v.category).sum + (mL + 11) + rm'.locals ≤ rm.locals) (hc : k' ≤ rm.cells) (hn : n' ≤ rm.slots) (ek : k + rm'.cells = k') (en : n + rm'.slots = n') (hp : pc + 3 = pc')
    (g : ∀ v h', Q' v h' → G w Q h' k' n' pc' Ls (psh v rest)) : G w Q h k n pc Ls st := by
  subst hp ek en; intro T locs X eT N
  have hl0 : w.l = l := C.1
  subst hl0
  obtain ⟨cq, q1, q2⟩ := E.cell
  have wi' : (Jvm.Cond.instantiable y.cls kk).before w.args w.s = true := mvT C.hZ wi
  obtain ⟨c2, k2, i1, i2, -, i4, -⟩ := Cond.instantiable_spec wi'
  have hni : k2.isInterface = false := (Bool.or_eq_false_iff.mp i4).1
  have hpv := Cond.privateMethod_at (mvP C.hZ wp (args := w.args))
  obtain ⟨v, vm₁, B, -, X', hQ, s'⟩ := X.privateBack C.ex C.ow (mvT C.hZ w1) (mvT C.hZ w5) (selects_self_of_private i1 i2 hni hpv (mvT C.hZ w5) hy) hpv (mvT C.hZ w4) hy (backOf (W := (rest.map fun v => v.category).sum) (Q := fun v h L => Q' v h ∧ Fr n0 L) (K []) C.hZ w4 w3 (by rw [C.ro]; exact hf) (by rw [C.ro]; exact hl)) (g := mkF w.m pc Ls st) rfl (hz.trans C.ml.symm) (Steps.refl _) (a := a) (by rw [eT]; exact q1) q2 (argsL := argsL) (rest := rest) (lenOf pd hlen) hst (by show 2 * 0 + _ ≤ _; omega) (C.dec hd) (fun _ _ => ⟨rfl, eT, by rw [C.ro]; exact hc, by rw [C.ro]; exact hn⟩)
  exact g_fin (T := T) (as := argsL.toArray) (A := (⟨T.setVm vm₁, locs, k, n⟩ : Pt)) C ⟨rfl, rfl, rfl⟩ X' hQ N g (fun t r => s'.trans r)
theorem g_lswHit (C : Cx w l Z own bytes mx rt nm rm n0) {df : Int} {prs : Array (Int × Int)} {len : Nat} {a o : Int} {i : Int32} (hd : decode bytes pc = .ok (.lookupswitch df prs, len)) (hs : st = .int i :: rest) (hso : (prs.toList.zip (prs.toList.drop 1)).all (fun (a, next) => a.1 < next.1) = true) (hf : prs.find? (·.1 == i.toInt) = some (a, o)) (ho : 0 ≤ (pc : Int) + o) (hp : ((pc : Int) + o).toNat = pc') (g : G w Q h k n pc' Ls rest) : G w Q h k n pc Ls st := by
  subst hp; exact g.adv fun T locs X _ t r => X.lookupswitchHit C.ex (g := mkF w.m pc Ls st) rfl hs (C.dec hd) hso hf ho t r
theorem g_lswMiss (C : Cx w l Z own bytes mx rt nm rm n0) {df : Int} {prs : Array (Int × Int)} {len : Nat} {i : Int32} (hd : decode bytes pc = .ok (.lookupswitch df prs, len)) (hs : st = .int i :: rest) (hso : (prs.toList.zip (prs.toList.drop 1)).all (fun (a, next) => a.1 < next.1) = true) (hf : prs.find? (·.1 == i.toInt) = none) (ho : 0 ≤ (pc : Int) + df) (hp : ((pc : Int) + df).toNat = pc') (g : G w Q h k n pc' Ls rest) : G w Q h k n pc Ls st := by
  subst hp; exact g.adv fun T locs X _ t r => X.lookupswitchMiss C.ex (g := mkF w.m pc Ls st) rfl hs (C.dec hd) hso hf ho t r
end Gs
theorem wd {Z : State} {a0 : Array Value} (hw : ∀ d ∈ tables_1, d.before a0 Z = true) (i : Nat) {d : Jvm.Cond} (e : tables_1[i]? = some d) : d.before a0 Z = true := hw _ (List.mem_of_getElem? e)
theorem own_fldInt {args : Array Value} {s : State} {t : Term} {a : Addr} {C f d : String} {k : Int32} (ev : t.eval args s none [] s = some (.ref a)) (h : (Jvm.Cond.eq (.field t C f d) (.int k)).value args s none s [] = some true) : Fld s s.heap a C f d (.int k) := by
  obtain ⟨x, y, hx, hy, k1, k2⟩ := cmp_v (Or.inl h)
  cases (Term.int_eval k).symm.trans hy
  obtain ⟨z, rfl⟩ : ∃ z, x = .int z := by simpa [Kin] using k2
  have e : z = k := by simpa [Jvm.Cond.value, hx, hy] using h
  subst e
  rw [fld_at ev] at hx
  exact Fld.start hx
theorem own_fldLong {args : Array Value} {s : State} {t : Term} {a : Addr} {C f d : String} {k : Int64} (ev : t.eval args s none [] s = some (.ref a)) (h : (Jvm.Cond.eq (.field t C f d) (.long k)).value args s none s [] = some true) : Fld s s.heap a C f d (.long k) := by
  obtain ⟨x, y, hx, hy, k1, k2⟩ := cmp_v (Or.inl h)
  cases (long_at k).symm.trans hy
  obtain ⟨z, rfl⟩ : ∃ z, x = .long z := by simpa [Kin] using k2
  have e : z = k := by simpa [Jvm.Cond.value, hx, hy] using h
  subst e
  rw [fld_at ev] at hx
  exact Fld.start hx
theorem own_staLong {args : Array Value} {s : State} {t : Term} {k : Int64} (h : (Jvm.Cond.eq t (.long k)).value args s none s [] = some true) : t.eval args s none [] s = some (.long k) := by
  obtain ⟨x, y, hx, hy, k1, k2⟩ := cmp_v (Or.inl h)
  cases (long_at k).symm.trans hy
  obtain ⟨z, rfl⟩ : ∃ z, x = .long z := by simpa [Kin] using k2
  have e : z = k := by simpa [Jvm.Cond.value, hx, hy] using h
  subst e
  exact hx
theorem own_staInt {args : Array Value} {s : State} {t : Term} {k : Int32} (h : (Jvm.Cond.eq t (.int k)).value args s none s [] = some true) : t.eval args s none [] s = some (.int k) := by
  obtain ⟨x, y, hx, hy, k1, k2⟩ := cmp_v (Or.inl h)
  cases (Term.int_eval k).symm.trans hy
  obtain ⟨z, rfl⟩ : ∃ z, x = .int z := by simpa [Kin] using k2
  have e : z = k := by simpa [Jvm.Cond.value, hx, hy] using h
  subst e
  exact hx
theorem own_ine {i j : Int32} (h : i ≠ j) : (Value.int i) ≠ .int j := fun q => h (by injection q)
theorem own_mask31 (x : Int32) : 0 ≤ (x &&& 2147483647).toInt ∧ (x &&& 2147483647).toInt < 2147483648 := by
  have := c_mask x 2147483647 31 (by decide) (by decide)
  rw [this]; omega
def IL (Z : State) (n0 : Nat) (h : Heap) (a bl d : Addr) (kB kD : ClassId) (s z : Int32) (vs : List Value) : Prop :=
  n0 ≤ a ∧ n0 ≤ bl ∧ n0 ≤ d ∧ a ≠ bl ∧ a ≠ d ∧ bl ≠ d ∧ OvrA Z kB .int "[I" ∧ Exa Z h a "com/example/ratatoskr/ratatoskr/index/IntList" ∧ Fld Z h a "com/example/ratatoskr/ratatoskr/index/IntList" "blocks" "[[I" (.ref bl) ∧ Fld Z h a "com/example/ratatoskr/ratatoskr/index/IntList" "size" "I" (.int s) ∧ Arv Z h bl kB (.array .int) (1 : Int32) [.ref d] .null ∧ Arv Z h d kD .int z vs (.int (0 : Int32))
theorem own_mod9 (x : Int32) : ((x &&& (2147483647 : Int32)) % (9 : Int32)) = (0 : Int32) ∨ ((x &&& (2147483647 : Int32)) % (9 : Int32)) = (1 : Int32) ∨ ((x &&& (2147483647 : Int32)) % (9 : Int32)) = (2 : Int32) ∨ ((x &&& (2147483647 : Int32)) % (9 : Int32)) = (3 : Int32) ∨ ((x &&& (2147483647 : Int32)) % (9 : Int32)) = (4 : Int32) ∨ ((x &&& (2147483647 : Int32)) % (9 : Int32)) = (5 : Int32) ∨ ((x &&& (2147483647 : Int32)) % (9 : Int32)) = (6 : Int32) ∨ ((x &&& (2147483647 : Int32)) % (9 : Int32)) = (7 : Int32) ∨ ((x &&& (2147483647 : Int32)) % (9 : Int32)) = (8 : Int32) := by
  have h1 := own_mask31 x
  have h2 : ((x &&& (2147483647 : Int32)) % (9 : Int32)).toInt = (x &&& 2147483647).toInt.tmod 9 := by rw [Int32.toInt_mod]; rfl
  rw [Int.tmod_eq_emod_of_nonneg h1.1] at h2
  simp only [← Int32.toInt_inj, h2]
  have h3 : (x &&& 2147483647).toInt % 9 = 0 ∨ (x &&& 2147483647).toInt % 9 = 1 ∨ (x &&& 2147483647).toInt % 9 = 2 ∨ (x &&& 2147483647).toInt % 9 = 3 ∨ (x &&& 2147483647).toInt % 9 = 4 ∨ (x &&& 2147483647).toInt % 9 = 5 ∨ (x &&& 2147483647).toInt % 9 = 6 ∨ (x &&& 2147483647).toInt % 9 = 7 ∨ (x &&& 2147483647).toInt % 9 = 8 := by omega
  rcases h3 with h | h | h | h | h | h | h | h | h <;> simp [h]
theorem d1_0 : decode prog_10_method_1_code 0 = .ok (.aload_n 0, 1) := by decide +kernel
theorem d1_1 : decode prog_10_method_1_code 1 = .ok (.invokespecial 3, 3) := by decide +kernel
theorem d1_4 : decode prog_10_method_1_code 4 = .ok (.aload_n 0, 1) := by decide +kernel
theorem d1_5 : decode prog_10_method_1_code 5 = .ok (.iconst 1, 1) := by decide +kernel
theorem d1_6 : decode prog_10_method_1_code 6 = .ok (.anewarray 9, 3) := by decide +kernel
theorem d1_9 : decode prog_10_method_1_code 9 = .ok (.dup, 1) := by decide +kernel
theorem d1_10 : decode prog_10_method_1_code 10 = .ok (.iconst 0, 1) := by decide +kernel
theorem d1_11 : decode prog_10_method_1_code 11 = .ok (.bipush 8, 2) := by decide +kernel
theorem d1_13 : decode prog_10_method_1_code 13 = .ok (.newarray .int, 2) := by decide +kernel
theorem d1_15 : decode prog_10_method_1_code 15 = .ok (.aastore, 1) := by decide +kernel
theorem d1_16 : decode prog_10_method_1_code 16 = .ok (.putfield 11, 3) := by decide +kernel
theorem d1_19 : decode prog_10_method_1_code 19 = .ok (.return_, 1) := by decide +kernel
theorem pn_0 : plainName "com/example/ratatoskr/ratatoskr/index/IntList" = true := by first | (simp [plainName, overriddenIn]; done) | decide +kernel
set_option maxRecDepth 65536 in
set_option maxHeartbeats 40000000 in
theorem il_init (l : Launch) (Z : State) (a0 : Array Value) (hw : ∀ d ∈ tables_1, d.before a0 Z = true) (n0 : Nat) (h : Heap) (O : Old Z n0 h)  (a : Addr) (ga : n0 ≤ a) (E0 : Exa Z h a "com/example/ratatoskr/ratatoskr/index/IntList") (F1 : Fld Z h a "com/example/ratatoskr/ratatoskr/index/IntList" "blocks" "[[I" .null) (F2 : Fld Z h a "com/example/ratatoskr/ratatoskr/index/IntList" "size" "I" (.int (0 : Int32))) : Con l Z (⟨"com/example/ratatoskr/ratatoskr/index/IntList", "<init>", "()V"⟩ : MethodName) prog_10_method_1_code 1 none ({ frames := 1, cells := 2, slots := 9, locals := 12 } : Room) #[(.ref a)] h n0 (fun v h' => v = none ∧ Keep h h' [a] ∧ ∃ bl d kB kD, h.size ≤ bl ∧ h.size ≤ d ∧ IL Z n0 h' a bl d kB kD (0 : Int32) (8 : Int32) [(.int (0 : Int32)), (.int (0 : Int32)), (.int (0 : Int32)), (.int (0 : Int32)), (.int (0 : Int32)), (.int (0 : Int32)), (.int (0 : Int32)), (.int (0 : Int32))]) := by
  refine Con.mk (Ls := #[.val (.ref a)]) (plainFor_of_name pn_0) (fun m => by first | (simp [entryFrame, mkF, argsToLocals, Value.category]; done) | rfl) (fun w C => ?_)
  replace C : Cx w l Z "com/example/ratatoskr/ratatoskr/index/IntList" prog_10_method_1_code 1 none "<init>" ({ frames := 1, cells := 2, slots := 9, locals := 12 } : Room) n0 := C
  refine g_aloadN C (pc' := 1) d1_0 rfl rfl rfl ?_
  refine g_initO C (pc' := 4) (wd hw 8 rfl) (wd hw 9 rfl) (wd hw 10 rfl) d1_1 rfl rfl (Nat.le_of_ble_eq_true rfl) (Nat.le_of_ble_eq_true rfl) rfl ?_
  refine g_aloadN C (pc' := 5) d1_4 rfl rfl rfl ?_
  refine g_iconst C (pc' := 6) (v := (1 : Int32)) d1_5 (by decide) rfl ?_
  refine g_newRA C (pc' := 9) (k' := 1) (n' := 1) (cap := 1) (K := "[I") (ad := "[[I") (by decide) (by decide) (wd hw 11 rfl) (wd hw 12 rfl) d1_6 rfl (by decide) (by decide) (by decide) (by decide) (by decide) rfl rfl rfl (fun h1 b2 kA3 ex4 E5 A6 B8 Ov7 => ?_)
  have ne_a_b2 : a ≠ b2 := Nat.ne_of_lt (by rw [ex4]; exact E0.lt)
  have ge_b2 : n0 ≤ b2 := by rw [ex4]; exact O.1 ▸ O.2.1
  have sz_b2 : h.size ≤ b2 := by rw [ex4]; exact (Keep.refl h [a]).1
  have f9 := O.ext E5
  have f10 := E0.ext E5
  have f11 := F1.ext E5
  have f12 := F2.ext E5
  have f13 := (Keep.refl h [a]).ext E5
  have A14 : Arv Z h1 b2 kA3 (.array .int) (1 : Int32) [.null] .null := A6.pad (pad_rep [] .null 1)
  refine g_dup C (pc' := 10) d1_9 rfl rfl rfl ?_
  refine g_iconst C (pc' := 11) (v := (0 : Int32)) d1_10 (by decide) rfl ?_
  refine g_bipush C (pc' := 13) (v := (8 : Int32)) d1_11 (by decide) rfl ?_
  refine g_newPE C (pc' := 15) (k' := 2) (n' := 9) (cap := 8) (ad := "[I") (wd hw 0 rfl) (by decide) d1_13 rfl (by decide) (by decide) (by decide) (by decide) (by decide) rfl rfl rfl (fun h15 b16 kA17 ex18 E19 A20 B21 => ?_)
  have ne_a_b16 : a ≠ b16 := Nat.ne_of_lt (by rw [ex18]; exact f10.lt)
  have ne_b2_b16 : b2 ≠ b16 := Nat.ne_of_lt (by rw [ex18]; exact A14.lt)
  have ge_b16 : n0 ≤ b16 := by rw [ex18]; exact f9.1 ▸ f9.2.1
  have sz_b16 : h.size ≤ b16 := by rw [ex18]; exact f13.1
  have f22 := f9.ext E19
  have f23 := f10.ext E19
  have f24 := f11.ext E19
  have f25 := f12.ext E19
  have f26 := f13.ext E19
  have f27 := A14.ext E19
  have f28 := B8.ext E19
  have A29 : Arv Z h15 b16 kA17 .int (8 : Int32) [(.int (0 : Int32)), (.int (0 : Int32)), (.int (0 : Int32)), (.int (0 : Int32)), (.int (0 : Int32)), (.int (0 : Int32)), (.int (0 : Int32)), (.int (0 : Int32))] (.int (0 : Int32)) := A20.pad (pad_rep [] (.int (0 : Int32)) 8)
  refine g_aastore C (pc' := 16) d1_15 rfl f27 rfl (stoA f27 Ov7 B21) (by decide) (by decide) ge_b2 rfl (fun h30 W31 => ?_)
  have f32 := f22.wr W31 ge_b2
  have f33 := f23.wr W31
  have f34 := f24.other W31 (Or.inl ne_a_b2)
  have f35 := f25.other W31 (Or.inl ne_a_b2)
  have f36 := f26.wr W31 (Or.inr sz_b2)
  have f37 := (arv_put f27 rfl W31 (i := 0) rfl (Nat.le_of_ble_eq_true rfl) : Arv Z h30 b2 kA3 (.array .int) (1 : Int32) [(.ref b16)] .null)
  have f38 := f28.wr W31
  have f39 := A29.other W31 (Ne.symm ne_b2_b16)
  have f40 := B21.wr W31
  refine g_putF C (pc' := 19) (ty := (.array (.array .int))) (wd hw 14 rfl) Via.refl d1_16 rfl f34 f33 (Or.inl (wd hw 15 rfl)) (wd hw 3 rfl) (by decide) rfl rfl ga rfl (fun h41 W42 => ?_)
  have f43 := f32.wr W42 ga
  have f44 := f33.wr W42
  have f45 := f34.same W42
  have f46 := f35.other W42 (Or.inr (slot_ne (Or.inl (wd hw 22 rfl)) (Or.inl (wd hw 15 rfl)) (by decide) (t := .int) (t' := (.array (.array .int))) (by decide) (by decide)))
  have f47 := f36.wr W42 (Or.inl (List.mem_of_getElem? (i := 0) rfl))
  have f48 := f37.other W42 (Ne.symm ne_a_b2)
  have f49 := f38.wr W42
  have f50 := f39.other W42 (Ne.symm ne_a_b16)
  have f51 := f40.wr W42
  exact g_return C d1_19 rfl (Nat.le_of_ble_eq_true rfl) (Nat.le_of_ble_eq_true rfl) (⟨rfl, f47, b2, b16, kA3, kA17, sz_b2, sz_b16, ga, ge_b2, ge_b16, ne_a_b2, ne_a_b16, ne_b2_b16, Ov7, f44, f45, f46, f48, f50⟩)
theorem d3_0 : decode prog_10_method_2_code 0 = .ok (.aload_n 0, 1) := by decide +kernel
theorem d3_1 : decode prog_10_method_2_code 1 = .ok (.getfield 15, 3) := by decide +kernel
theorem d3_4 : decode prog_10_method_2_code 4 = .ok (.bipush 14, 2) := by decide +kernel
theorem d3_6 : decode prog_10_method_2_code 6 = .ok (.iushr, 1) := by decide +kernel
theorem d3_7 : decode prog_10_method_2_code 7 = .ok (.istore_n 2, 1) := by decide +kernel
theorem d3_8 : decode prog_10_method_2_code 8 = .ok (.aload_n 0, 1) := by decide +kernel
theorem d3_9 : decode prog_10_method_2_code 9 = .ok (.getfield 15, 3) := by decide +kernel
theorem d3_12 : decode prog_10_method_2_code 12 = .ok (.sipush 16383, 3) := by decide +kernel
theorem d3_15 : decode prog_10_method_2_code 15 = .ok (.iand, 1) := by decide +kernel
theorem d3_16 : decode prog_10_method_2_code 16 = .ok (.istore_n 3, 1) := by decide +kernel
theorem d3_17 : decode prog_10_method_2_code 17 = .ok (.iload_n 2, 1) := by decide +kernel
theorem d3_18 : decode prog_10_method_2_code 18 = .ok (.ifCond .ne 35, 3) := by decide +kernel
theorem d3_21 : decode prog_10_method_2_code 21 = .ok (.iload_n 3, 1) := by decide +kernel
theorem d3_22 : decode prog_10_method_2_code 22 = .ok (.aload_n 0, 1) := by decide +kernel
theorem d3_23 : decode prog_10_method_2_code 23 = .ok (.getfield 11, 3) := by decide +kernel
theorem d3_26 : decode prog_10_method_2_code 26 = .ok (.iconst 0, 1) := by decide +kernel
theorem d3_27 : decode prog_10_method_2_code 27 = .ok (.aaload, 1) := by decide +kernel
theorem d3_28 : decode prog_10_method_2_code 28 = .ok (.arraylength, 1) := by decide +kernel
theorem d3_29 : decode prog_10_method_2_code 29 = .ok (.if_icmp .ne 24, 3) := by decide +kernel
theorem d3_53 : decode prog_10_method_2_code 53 = .ok (.iload_n 2, 1) := by decide +kernel
theorem d3_54 : decode prog_10_method_2_code 54 = .ok (.aload_n 0, 1) := by decide +kernel
theorem d3_55 : decode prog_10_method_2_code 55 = .ok (.getfield 11, 3) := by decide +kernel
theorem d3_58 : decode prog_10_method_2_code 58 = .ok (.arraylength, 1) := by decide +kernel
theorem d3_59 : decode prog_10_method_2_code 59 = .ok (.if_icmp .ne 34, 3) := by decide +kernel
theorem d3_93 : decode prog_10_method_2_code 93 = .ok (.aload_n 0, 1) := by decide +kernel
theorem d3_94 : decode prog_10_method_2_code 94 = .ok (.getfield 11, 3) := by decide +kernel
theorem d3_97 : decode prog_10_method_2_code 97 = .ok (.iload_n 2, 1) := by decide +kernel
theorem d3_98 : decode prog_10_method_2_code 98 = .ok (.aaload, 1) := by decide +kernel
theorem d3_99 : decode prog_10_method_2_code 99 = .ok (.ifnonnull 14, 3) := by decide +kernel
theorem d3_113 : decode prog_10_method_2_code 113 = .ok (.aload_n 0, 1) := by decide +kernel
theorem d3_114 : decode prog_10_method_2_code 114 = .ok (.getfield 11, 3) := by decide +kernel
theorem d3_117 : decode prog_10_method_2_code 117 = .ok (.iload_n 2, 1) := by decide +kernel
theorem d3_118 : decode prog_10_method_2_code 118 = .ok (.aaload, 1) := by decide +kernel
theorem d3_119 : decode prog_10_method_2_code 119 = .ok (.iload_n 3, 1) := by decide +kernel
theorem d3_120 : decode prog_10_method_2_code 120 = .ok (.iload_n 1, 1) := by decide +kernel
theorem d3_121 : decode prog_10_method_2_code 121 = .ok (.iastore, 1) := by decide +kernel
theorem d3_122 : decode prog_10_method_2_code 122 = .ok (.aload_n 0, 1) := by decide +kernel
theorem d3_123 : decode prog_10_method_2_code 123 = .ok (.dup, 1) := by decide +kernel
theorem d3_124 : decode prog_10_method_2_code 124 = .ok (.getfield 15, 3) := by decide +kernel
theorem d3_127 : decode prog_10_method_2_code 127 = .ok (.iconst 1, 1) := by decide +kernel
theorem d3_128 : decode prog_10_method_2_code 128 = .ok (.iadd, 1) := by decide +kernel
theorem d3_129 : decode prog_10_method_2_code 129 = .ok (.putfield 15, 3) := by decide +kernel
theorem d3_132 : decode prog_10_method_2_code 132 = .ok (.return_, 1) := by decide +kernel
set_option maxRecDepth 65536 in
set_option maxHeartbeats 40000000 in
theorem il_add0 (l : Launch) (Z : State) (a0 : Array Value) (hw : ∀ d ∈ tables_1, d.before a0 Z = true) (n0 : Nat) (h : Heap) (O : Old Z n0 h)  (a bl d : Addr) (kB kD : ClassId) (x0 x1 x2 x3 x4 x5 x6 x7 : Int32) (v : Int32) (P : IL Z n0 h a bl d kB kD (0 : Int32) (8 : Int32) [(.int x0), (.int x1), (.int x2), (.int x3), (.int x4), (.int x5), (.int x6), (.int x7)]) : Con l Z (⟨"com/example/ratatoskr/ratatoskr/index/IntList", "add", "(I)V"⟩ : MethodName) prog_10_method_2_code 4 none ({ frames := 0, cells := 0, slots := 0, locals := 0 } : Room) #[(.ref a), (.int v)] h n0 (fun r h' => r = none ∧ Keep h h' [a, bl, d] ∧ IL Z n0 h' a bl d kB kD (1 : Int32) (8 : Int32) [(.int v), (.int x1), (.int x2), (.int x3), (.int x4), (.int x5), (.int x6), (.int x7)]) := by
  refine Con.mk (Ls := #[.val (.ref a), .val (.int v), .unset, .unset]) (plainFor_of_name pn_0) (fun m => by first | (simp [entryFrame, mkF, argsToLocals, Value.category]; done) | rfl) (fun w C => ?_)
  replace C : Cx w l Z "com/example/ratatoskr/ratatoskr/index/IntList" prog_10_method_2_code 4 none "add" ({ frames := 0, cells := 0, slots := 0, locals := 0 } : Room) n0 := C
  obtain ⟨ga, gb, gd, nab, nad, nbd, Ov, E0, F1, F2, A1, A2⟩ := P
  refine g_aloadN C (pc' := 1) d3_0 rfl rfl rfl ?_
  refine g_getF C (pc' := 4) (wd hw 21 rfl) Via.refl d3_1 rfl F2 rfl ?_
  refine g_bipush C (pc' := 6) (v := (14 : Int32)) d3_4 (by decide) rfl ?_
  refine g_iushr C (pc' := 7) d3_6 rfl rfl ?_
  rw [show (((0 : Int32).toUInt32 >>> ((14 : Int32) &&& 31).toUInt32).toInt32) = (0 : Int32) from by decide]
  refine g_istoreN C (pc' := 8) (Ls' := #[.val (.ref a), .val (.int v), .val (.int (0 : Int32)), .unset]) d3_7 rfl rfl rfl ?_
  refine g_aloadN C (pc' := 9) d3_8 rfl rfl rfl ?_
  refine g_getF C (pc' := 12) (wd hw 21 rfl) Via.refl d3_9 rfl F2 rfl ?_
  refine g_sipush C (pc' := 15) (v := (16383 : Int32)) d3_12 (by decide) rfl ?_
  refine g_iand C (pc' := 16) d3_15 rfl rfl ?_
  rw [show ((0 : Int32) &&& (16383 : Int32)) = (0 : Int32) from by decide]
  refine g_istoreN C (pc' := 17) (Ls' := #[.val (.ref a), .val (.int v), .val (.int (0 : Int32)), .val (.int (0 : Int32))]) d3_16 rfl rfl rfl ?_
  refine g_iloadN C (pc' := 18) d3_17 rfl rfl ?_
  refine g_ifN C (pc' := 21) d3_18 rfl (by decide) rfl ?_
  refine g_iloadN C (pc' := 22) d3_21 rfl rfl ?_
  refine g_aloadN C (pc' := 23) d3_22 rfl rfl rfl ?_
  refine g_getF C (pc' := 26) (wd hw 14 rfl) Via.refl d3_23 rfl F1 rfl ?_
  refine g_iconst C (pc' := 27) (v := (0 : Int32)) d3_26 (by decide) rfl ?_
  refine g_aaload C (pc' := 28) (x := (.ref d)) d3_27 rfl A1 rfl (by decide) (by decide) rfl rfl ?_
  refine g_alen C (pc' := 29) d3_28 rfl A2 rfl ?_
  refine g_icY C (pc' := 53) d3_29 rfl (by decide) (by decide) rfl ?_
  refine g_iloadN C (pc' := 54) d3_53 rfl rfl ?_
  refine g_aloadN C (pc' := 55) d3_54 rfl rfl rfl ?_
  refine g_getF C (pc' := 58) (wd hw 14 rfl) Via.refl d3_55 rfl F1 rfl ?_
  refine g_alen C (pc' := 59) d3_58 rfl A1 rfl ?_
  refine g_icY C (pc' := 93) d3_59 rfl (by decide) (by decide) rfl ?_
  refine g_aloadN C (pc' := 94) d3_93 rfl rfl rfl ?_
  refine g_getF C (pc' := 97) (wd hw 14 rfl) Via.refl d3_94 rfl F1 rfl ?_
  refine g_iloadN C (pc' := 98) d3_97 rfl rfl ?_
  refine g_aaload C (pc' := 99) (x := (.ref d)) d3_98 rfl A1 rfl (by decide) (by decide) rfl rfl ?_
  refine g_ifnonnullY C (pc' := 113) d3_99 rfl (by decide) rfl ?_
  refine g_aloadN C (pc' := 114) d3_113 rfl rfl rfl ?_
  refine g_getF C (pc' := 117) (wd hw 14 rfl) Via.refl d3_114 rfl F1 rfl ?_
  refine g_iloadN C (pc' := 118) d3_117 rfl rfl ?_
  refine g_aaload C (pc' := 119) (x := (.ref d)) d3_118 rfl A1 rfl (by decide) (by decide) rfl rfl ?_
  refine g_iloadN C (pc' := 120) d3_119 rfl rfl ?_
  refine g_iloadN C (pc' := 121) d3_120 rfl rfl ?_
  refine g_iastore C (pc' := 122) d3_121 rfl A2 (by decide) (by decide) gd rfl (fun h52 W53 => ?_)
  have f54 := O.wr W53 gd
  have f55 := E0.wr W53
  have f56 := F1.other W53 (Or.inl nad)
  have f57 := F2.other W53 (Or.inl nad)
  have f58 := A1.other W53 nbd
  have f59 := (arv_put A2 rfl W53 (i := 0) rfl (Nat.le_of_ble_eq_true rfl) : Arv Z h52 d kD .int (8 : Int32) [(.int v), (.int x1), (.int x2), (.int x3), (.int x4), (.int x5), (.int x6), (.int x7)] (.int (0 : Int32)))
  have f60 := (Keep.refl h [a, bl, d]).wr W53 (Or.inl (List.mem_of_getElem? (i := 2) rfl))
  refine g_aloadN C (pc' := 123) d3_122 rfl rfl rfl ?_
  refine g_dup C (pc' := 124) d3_123 rfl rfl rfl ?_
  refine g_getF C (pc' := 127) (wd hw 21 rfl) Via.refl d3_124 rfl f57 rfl ?_
  refine g_iconst C (pc' := 128) (v := (1 : Int32)) d3_127 (by decide) rfl ?_
  refine g_iadd C (pc' := 129) d3_128 rfl rfl ?_
  rw [show ((0 : Int32) + (1 : Int32)) = (1 : Int32) from by decide]
  refine g_putF C (pc' := 132) (ty := .int) (wd hw 21 rfl) Via.refl d3_129 rfl f57 f55 (Or.inl (wd hw 22 rfl)) (wd hw 3 rfl) (by decide) rfl rfl ga rfl (fun h61 W62 => ?_)
  have f63 := f54.wr W62 ga
  have f64 := f55.wr W62
  have f65 := f56.other W62 (Or.inr (slot_ne (Or.inl (wd hw 15 rfl)) (Or.inl (wd hw 22 rfl)) (by decide) (t := (.array (.array .int))) (t' := .int) (by decide) (by decide)))
  have f66 := f57.same W62
  have f67 := f58.other W62 (Ne.symm nab)
  have f68 := f59.other W62 (Ne.symm nad)
  have f69 := f60.wr W62 (Or.inl (List.mem_of_getElem? (i := 0) rfl))
  exact g_return C d3_132 rfl (Nat.le_of_ble_eq_true rfl) (Nat.le_of_ble_eq_true rfl) (⟨rfl, f69, ⟨ga, gb, gd, nab, nad, nbd, Ov, f64, f65, f66, f67, f68⟩⟩)
set_option maxRecDepth 65536 in
set_option maxHeartbeats 40000000 in
theorem il_add1 (l : Launch) (Z : State) (a0 : Array Value) (hw : ∀ d ∈ tables_1, d.before a0 Z = true) (n0 : Nat) (h : Heap) (O : Old Z n0 h)  (a bl d : Addr) (kB kD : ClassId) (x0 x1 x2 x3 x4 x5 x6 x7 : Int32) (v : Int32) (P : IL Z n0 h a bl d kB kD (1 : Int32) (8 : Int32) [(.int x0), (.int x1), (.int x2), (.int x3), (.int x4), (.int x5), (.int x6), (.int x7)]) : Con l Z (⟨"com/example/ratatoskr/ratatoskr/index/IntList", "add", "(I)V"⟩ : MethodName) prog_10_method_2_code 4 none ({ frames := 0, cells := 0, slots := 0, locals := 0 } : Room) #[(.ref a), (.int v)] h n0 (fun r h' => r = none ∧ Keep h h' [a, bl, d] ∧ IL Z n0 h' a bl d kB kD (2 : Int32) (8 : Int32) [(.int x0), (.int v), (.int x2), (.int x3), (.int x4), (.int x5), (.int x6), (.int x7)]) := by
  refine Con.mk (Ls := #[.val (.ref a), .val (.int v), .unset, .unset]) (plainFor_of_name pn_0) (fun m => by first | (simp [entryFrame, mkF, argsToLocals, Value.category]; done) | rfl) (fun w C => ?_)
  replace C : Cx w l Z "com/example/ratatoskr/ratatoskr/index/IntList" prog_10_method_2_code 4 none "add" ({ frames := 0, cells := 0, slots := 0, locals := 0 } : Room) n0 := C
  obtain ⟨ga, gb, gd, nab, nad, nbd, Ov, E0, F1, F2, A1, A2⟩ := P
  refine g_aloadN C (pc' := 1) d3_0 rfl rfl rfl ?_
  refine g_getF C (pc' := 4) (wd hw 21 rfl) Via.refl d3_1 rfl F2 rfl ?_
  refine g_bipush C (pc' := 6) (v := (14 : Int32)) d3_4 (by decide) rfl ?_
  refine g_iushr C (pc' := 7) d3_6 rfl rfl ?_
  rw [show (((1 : Int32).toUInt32 >>> ((14 : Int32) &&& 31).toUInt32).toInt32) = (0 : Int32) from by decide]
  refine g_istoreN C (pc' := 8) (Ls' := #[.val (.ref a), .val (.int v), .val (.int (0 : Int32)), .unset]) d3_7 rfl rfl rfl ?_
  refine g_aloadN C (pc' := 9) d3_8 rfl rfl rfl ?_
  refine g_getF C (pc' := 12) (wd hw 21 rfl) Via.refl d3_9 rfl F2 rfl ?_
  refine g_sipush C (pc' := 15) (v := (16383 : Int32)) d3_12 (by decide) rfl ?_
  refine g_iand C (pc' := 16) d3_15 rfl rfl ?_
  rw [show ((1 : Int32) &&& (16383 : Int32)) = (1 : Int32) from by decide]
  refine g_istoreN C (pc' := 17) (Ls' := #[.val (.ref a), .val (.int v), .val (.int (0 : Int32)), .val (.int (1 : Int32))]) d3_16 rfl rfl rfl ?_
  refine g_iloadN C (pc' := 18) d3_17 rfl rfl ?_
  refine g_ifN C (pc' := 21) d3_18 rfl (by decide) rfl ?_
  refine g_iloadN C (pc' := 22) d3_21 rfl rfl ?_
  refine g_aloadN C (pc' := 23) d3_22 rfl rfl rfl ?_
  refine g_getF C (pc' := 26) (wd hw 14 rfl) Via.refl d3_23 rfl F1 rfl ?_
  refine g_iconst C (pc' := 27) (v := (0 : Int32)) d3_26 (by decide) rfl ?_
  refine g_aaload C (pc' := 28) (x := (.ref d)) d3_27 rfl A1 rfl (by decide) (by decide) rfl rfl ?_
  refine g_alen C (pc' := 29) d3_28 rfl A2 rfl ?_
  refine g_icY C (pc' := 53) d3_29 rfl (by decide) (by decide) rfl ?_
  refine g_iloadN C (pc' := 54) d3_53 rfl rfl ?_
  refine g_aloadN C (pc' := 55) d3_54 rfl rfl rfl ?_
  refine g_getF C (pc' := 58) (wd hw 14 rfl) Via.refl d3_55 rfl F1 rfl ?_
  refine g_alen C (pc' := 59) d3_58 rfl A1 rfl ?_
  refine g_icY C (pc' := 93) d3_59 rfl (by decide) (by decide) rfl ?_
  refine g_aloadN C (pc' := 94) d3_93 rfl rfl rfl ?_
  refine g_getF C (pc' := 97) (wd hw 14 rfl) Via.refl d3_94 rfl F1 rfl ?_
  refine g_iloadN C (pc' := 98) d3_97 rfl rfl ?_
  refine g_aaload C (pc' := 99) (x := (.ref d)) d3_98 rfl A1 rfl (by decide) (by decide) rfl rfl ?_
  refine g_ifnonnullY C (pc' := 113) d3_99 rfl (by decide) rfl ?_
  refine g_aloadN C (pc' := 114) d3_113 rfl rfl rfl ?_
  refine g_getF C (pc' := 117) (wd hw 14 rfl) Via.refl d3_114 rfl F1 rfl ?_
  refine g_iloadN C (pc' := 118) d3_117 rfl rfl ?_
  refine g_aaload C (pc' := 119) (x := (.ref d)) d3_118 rfl A1 rfl (by decide) (by decide) rfl rfl ?_
  refine g_iloadN C (pc' := 120) d3_119 rfl rfl ?_
  refine g_iloadN C (pc' := 121) d3_120 rfl rfl ?_
  refine g_iastore C (pc' := 122) d3_121 rfl A2 (by decide) (by decide) gd rfl (fun h70 W71 => ?_)
  have f72 := O.wr W71 gd
  have f73 := E0.wr W71
  have f74 := F1.other W71 (Or.inl nad)
  have f75 := F2.other W71 (Or.inl nad)
  have f76 := A1.other W71 nbd
  have f77 := (arv_put A2 rfl W71 (i := 1) rfl (Nat.le_of_ble_eq_true rfl) : Arv Z h70 d kD .int (8 : Int32) [(.int x0), (.int v), (.int x2), (.int x3), (.int x4), (.int x5), (.int x6), (.int x7)] (.int (0 : Int32)))
  have f78 := (Keep.refl h [a, bl, d]).wr W71 (Or.inl (List.mem_of_getElem? (i := 2) rfl))
  refine g_aloadN C (pc' := 123) d3_122 rfl rfl rfl ?_
  refine g_dup C (pc' := 124) d3_123 rfl rfl rfl ?_
  refine g_getF C (pc' := 127) (wd hw 21 rfl) Via.refl d3_124 rfl f75 rfl ?_
  refine g_iconst C (pc' := 128) (v := (1 : Int32)) d3_127 (by decide) rfl ?_
  refine g_iadd C (pc' := 129) d3_128 rfl rfl ?_
  rw [show ((1 : Int32) + (1 : Int32)) = (2 : Int32) from by decide]
  refine g_putF C (pc' := 132) (ty := .int) (wd hw 21 rfl) Via.refl d3_129 rfl f75 f73 (Or.inl (wd hw 22 rfl)) (wd hw 3 rfl) (by decide) rfl rfl ga rfl (fun h79 W80 => ?_)
  have f81 := f72.wr W80 ga
  have f82 := f73.wr W80
  have f83 := f74.other W80 (Or.inr (slot_ne (Or.inl (wd hw 15 rfl)) (Or.inl (wd hw 22 rfl)) (by decide) (t := (.array (.array .int))) (t' := .int) (by decide) (by decide)))
  have f84 := f75.same W80
  have f85 := f76.other W80 (Ne.symm nab)
  have f86 := f77.other W80 (Ne.symm nad)
  have f87 := f78.wr W80 (Or.inl (List.mem_of_getElem? (i := 0) rfl))
  exact g_return C d3_132 rfl (Nat.le_of_ble_eq_true rfl) (Nat.le_of_ble_eq_true rfl) (⟨rfl, f87, ⟨ga, gb, gd, nab, nad, nbd, Ov, f82, f83, f84, f85, f86⟩⟩)
set_option maxRecDepth 65536 in
set_option maxHeartbeats 40000000 in
theorem il_add2 (l : Launch) (Z : State) (a0 : Array Value) (hw : ∀ d ∈ tables_1, d.before a0 Z = true) (n0 : Nat) (h : Heap) (O : Old Z n0 h)  (a bl d : Addr) (kB kD : ClassId) (x0 x1 x2 x3 x4 x5 x6 x7 : Int32) (v : Int32) (P : IL Z n0 h a bl d kB kD (2 : Int32) (8 : Int32) [(.int x0), (.int x1), (.int x2), (.int x3), (.int x4), (.int x5), (.int x6), (.int x7)]) : Con l Z (⟨"com/example/ratatoskr/ratatoskr/index/IntList", "add", "(I)V"⟩ : MethodName) prog_10_method_2_code 4 none ({ frames := 0, cells := 0, slots := 0, locals := 0 } : Room) #[(.ref a), (.int v)] h n0 (fun r h' => r = none ∧ Keep h h' [a, bl, d] ∧ IL Z n0 h' a bl d kB kD (3 : Int32) (8 : Int32) [(.int x0), (.int x1), (.int v), (.int x3), (.int x4), (.int x5), (.int x6), (.int x7)]) := by
  refine Con.mk (Ls := #[.val (.ref a), .val (.int v), .unset, .unset]) (plainFor_of_name pn_0) (fun m => by first | (simp [entryFrame, mkF, argsToLocals, Value.category]; done) | rfl) (fun w C => ?_)
  replace C : Cx w l Z "com/example/ratatoskr/ratatoskr/index/IntList" prog_10_method_2_code 4 none "add" ({ frames := 0, cells := 0, slots := 0, locals := 0 } : Room) n0 := C
  obtain ⟨ga, gb, gd, nab, nad, nbd, Ov, E0, F1, F2, A1, A2⟩ := P
  refine g_aloadN C (pc' := 1) d3_0 rfl rfl rfl ?_
  refine g_getF C (pc' := 4) (wd hw 21 rfl) Via.refl d3_1 rfl F2 rfl ?_
  refine g_bipush C (pc' := 6) (v := (14 : Int32)) d3_4 (by decide) rfl ?_
  refine g_iushr C (pc' := 7) d3_6 rfl rfl ?_
  rw [show (((2 : Int32).toUInt32 >>> ((14 : Int32) &&& 31).toUInt32).toInt32) = (0 : Int32) from by decide]
  refine g_istoreN C (pc' := 8) (Ls' := #[.val (.ref a), .val (.int v), .val (.int (0 : Int32)), .unset]) d3_7 rfl rfl rfl ?_
  refine g_aloadN C (pc' := 9) d3_8 rfl rfl rfl ?_
  refine g_getF C (pc' := 12) (wd hw 21 rfl) Via.refl d3_9 rfl F2 rfl ?_
  refine g_sipush C (pc' := 15) (v := (16383 : Int32)) d3_12 (by decide) rfl ?_
  refine g_iand C (pc' := 16) d3_15 rfl rfl ?_
  rw [show ((2 : Int32) &&& (16383 : Int32)) = (2 : Int32) from by decide]
  refine g_istoreN C (pc' := 17) (Ls' := #[.val (.ref a), .val (.int v), .val (.int (0 : Int32)), .val (.int (2 : Int32))]) d3_16 rfl rfl rfl ?_
  refine g_iloadN C (pc' := 18) d3_17 rfl rfl ?_
  refine g_ifN C (pc' := 21) d3_18 rfl (by decide) rfl ?_
  refine g_iloadN C (pc' := 22) d3_21 rfl rfl ?_
  refine g_aloadN C (pc' := 23) d3_22 rfl rfl rfl ?_
  refine g_getF C (pc' := 26) (wd hw 14 rfl) Via.refl d3_23 rfl F1 rfl ?_
  refine g_iconst C (pc' := 27) (v := (0 : Int32)) d3_26 (by decide) rfl ?_
  refine g_aaload C (pc' := 28) (x := (.ref d)) d3_27 rfl A1 rfl (by decide) (by decide) rfl rfl ?_
  refine g_alen C (pc' := 29) d3_28 rfl A2 rfl ?_
  refine g_icY C (pc' := 53) d3_29 rfl (by decide) (by decide) rfl ?_
  refine g_iloadN C (pc' := 54) d3_53 rfl rfl ?_
  refine g_aloadN C (pc' := 55) d3_54 rfl rfl rfl ?_
  refine g_getF C (pc' := 58) (wd hw 14 rfl) Via.refl d3_55 rfl F1 rfl ?_
  refine g_alen C (pc' := 59) d3_58 rfl A1 rfl ?_
  refine g_icY C (pc' := 93) d3_59 rfl (by decide) (by decide) rfl ?_
  refine g_aloadN C (pc' := 94) d3_93 rfl rfl rfl ?_
  refine g_getF C (pc' := 97) (wd hw 14 rfl) Via.refl d3_94 rfl F1 rfl ?_
  refine g_iloadN C (pc' := 98) d3_97 rfl rfl ?_
  refine g_aaload C (pc' := 99) (x := (.ref d)) d3_98 rfl A1 rfl (by decide) (by decide) rfl rfl ?_
  refine g_ifnonnullY C (pc' := 113) d3_99 rfl (by decide) rfl ?_
  refine g_aloadN C (pc' := 114) d3_113 rfl rfl rfl ?_
  refine g_getF C (pc' := 117) (wd hw 14 rfl) Via.refl d3_114 rfl F1 rfl ?_
  refine g_iloadN C (pc' := 118) d3_117 rfl rfl ?_
  refine g_aaload C (pc' := 119) (x := (.ref d)) d3_118 rfl A1 rfl (by decide) (by decide) rfl rfl ?_
  refine g_iloadN C (pc' := 120) d3_119 rfl rfl ?_
  refine g_iloadN C (pc' := 121) d3_120 rfl rfl ?_
  refine g_iastore C (pc' := 122) d3_121 rfl A2 (by decide) (by decide) gd rfl (fun h88 W89 => ?_)
  have f90 := O.wr W89 gd
  have f91 := E0.wr W89
  have f92 := F1.other W89 (Or.inl nad)
  have f93 := F2.other W89 (Or.inl nad)
  have f94 := A1.other W89 nbd
  have f95 := (arv_put A2 rfl W89 (i := 2) rfl (Nat.le_of_ble_eq_true rfl) : Arv Z h88 d kD .int (8 : Int32) [(.int x0), (.int x1), (.int v), (.int x3), (.int x4), (.int x5), (.int x6), (.int x7)] (.int (0 : Int32)))
  have f96 := (Keep.refl h [a, bl, d]).wr W89 (Or.inl (List.mem_of_getElem? (i := 2) rfl))
  refine g_aloadN C (pc' := 123) d3_122 rfl rfl rfl ?_
  refine g_dup C (pc' := 124) d3_123 rfl rfl rfl ?_
  refine g_getF C (pc' := 127) (wd hw 21 rfl) Via.refl d3_124 rfl f93 rfl ?_
  refine g_iconst C (pc' := 128) (v := (1 : Int32)) d3_127 (by decide) rfl ?_
  refine g_iadd C (pc' := 129) d3_128 rfl rfl ?_
  rw [show ((2 : Int32) + (1 : Int32)) = (3 : Int32) from by decide]
  refine g_putF C (pc' := 132) (ty := .int) (wd hw 21 rfl) Via.refl d3_129 rfl f93 f91 (Or.inl (wd hw 22 rfl)) (wd hw 3 rfl) (by decide) rfl rfl ga rfl (fun h97 W98 => ?_)
  have f99 := f90.wr W98 ga
  have f100 := f91.wr W98
  have f101 := f92.other W98 (Or.inr (slot_ne (Or.inl (wd hw 15 rfl)) (Or.inl (wd hw 22 rfl)) (by decide) (t := (.array (.array .int))) (t' := .int) (by decide) (by decide)))
  have f102 := f93.same W98
  have f103 := f94.other W98 (Ne.symm nab)
  have f104 := f95.other W98 (Ne.symm nad)
  have f105 := f96.wr W98 (Or.inl (List.mem_of_getElem? (i := 0) rfl))
  exact g_return C d3_132 rfl (Nat.le_of_ble_eq_true rfl) (Nat.le_of_ble_eq_true rfl) (⟨rfl, f105, ⟨ga, gb, gd, nab, nad, nbd, Ov, f100, f101, f102, f103, f104⟩⟩)
set_option maxRecDepth 65536 in
set_option maxHeartbeats 40000000 in
theorem il_add3 (l : Launch) (Z : State) (a0 : Array Value) (hw : ∀ d ∈ tables_1, d.before a0 Z = true) (n0 : Nat) (h : Heap) (O : Old Z n0 h)  (a bl d : Addr) (kB kD : ClassId) (x0 x1 x2 x3 x4 x5 x6 x7 : Int32) (v : Int32) (P : IL Z n0 h a bl d kB kD (3 : Int32) (8 : Int32) [(.int x0), (.int x1), (.int x2), (.int x3), (.int x4), (.int x5), (.int x6), (.int x7)]) : Con l Z (⟨"com/example/ratatoskr/ratatoskr/index/IntList", "add", "(I)V"⟩ : MethodName) prog_10_method_2_code 4 none ({ frames := 0, cells := 0, slots := 0, locals := 0 } : Room) #[(.ref a), (.int v)] h n0 (fun r h' => r = none ∧ Keep h h' [a, bl, d] ∧ IL Z n0 h' a bl d kB kD (4 : Int32) (8 : Int32) [(.int x0), (.int x1), (.int x2), (.int v), (.int x4), (.int x5), (.int x6), (.int x7)]) := by
  refine Con.mk (Ls := #[.val (.ref a), .val (.int v), .unset, .unset]) (plainFor_of_name pn_0) (fun m => by first | (simp [entryFrame, mkF, argsToLocals, Value.category]; done) | rfl) (fun w C => ?_)
  replace C : Cx w l Z "com/example/ratatoskr/ratatoskr/index/IntList" prog_10_method_2_code 4 none "add" ({ frames := 0, cells := 0, slots := 0, locals := 0 } : Room) n0 := C
  obtain ⟨ga, gb, gd, nab, nad, nbd, Ov, E0, F1, F2, A1, A2⟩ := P
  refine g_aloadN C (pc' := 1) d3_0 rfl rfl rfl ?_
  refine g_getF C (pc' := 4) (wd hw 21 rfl) Via.refl d3_1 rfl F2 rfl ?_
  refine g_bipush C (pc' := 6) (v := (14 : Int32)) d3_4 (by decide) rfl ?_
  refine g_iushr C (pc' := 7) d3_6 rfl rfl ?_
  rw [show (((3 : Int32).toUInt32 >>> ((14 : Int32) &&& 31).toUInt32).toInt32) = (0 : Int32) from by decide]
  refine g_istoreN C (pc' := 8) (Ls' := #[.val (.ref a), .val (.int v), .val (.int (0 : Int32)), .unset]) d3_7 rfl rfl rfl ?_
  refine g_aloadN C (pc' := 9) d3_8 rfl rfl rfl ?_
  refine g_getF C (pc' := 12) (wd hw 21 rfl) Via.refl d3_9 rfl F2 rfl ?_
  refine g_sipush C (pc' := 15) (v := (16383 : Int32)) d3_12 (by decide) rfl ?_
  refine g_iand C (pc' := 16) d3_15 rfl rfl ?_
  rw [show ((3 : Int32) &&& (16383 : Int32)) = (3 : Int32) from by decide]
  refine g_istoreN C (pc' := 17) (Ls' := #[.val (.ref a), .val (.int v), .val (.int (0 : Int32)), .val (.int (3 : Int32))]) d3_16 rfl rfl rfl ?_
  refine g_iloadN C (pc' := 18) d3_17 rfl rfl ?_
  refine g_ifN C (pc' := 21) d3_18 rfl (by decide) rfl ?_
  refine g_iloadN C (pc' := 22) d3_21 rfl rfl ?_
  refine g_aloadN C (pc' := 23) d3_22 rfl rfl rfl ?_
  refine g_getF C (pc' := 26) (wd hw 14 rfl) Via.refl d3_23 rfl F1 rfl ?_
  refine g_iconst C (pc' := 27) (v := (0 : Int32)) d3_26 (by decide) rfl ?_
  refine g_aaload C (pc' := 28) (x := (.ref d)) d3_27 rfl A1 rfl (by decide) (by decide) rfl rfl ?_
  refine g_alen C (pc' := 29) d3_28 rfl A2 rfl ?_
  refine g_icY C (pc' := 53) d3_29 rfl (by decide) (by decide) rfl ?_
  refine g_iloadN C (pc' := 54) d3_53 rfl rfl ?_
  refine g_aloadN C (pc' := 55) d3_54 rfl rfl rfl ?_
  refine g_getF C (pc' := 58) (wd hw 14 rfl) Via.refl d3_55 rfl F1 rfl ?_
  refine g_alen C (pc' := 59) d3_58 rfl A1 rfl ?_
  refine g_icY C (pc' := 93) d3_59 rfl (by decide) (by decide) rfl ?_
  refine g_aloadN C (pc' := 94) d3_93 rfl rfl rfl ?_
  refine g_getF C (pc' := 97) (wd hw 14 rfl) Via.refl d3_94 rfl F1 rfl ?_
  refine g_iloadN C (pc' := 98) d3_97 rfl rfl ?_
  refine g_aaload C (pc' := 99) (x := (.ref d)) d3_98 rfl A1 rfl (by decide) (by decide) rfl rfl ?_
  refine g_ifnonnullY C (pc' := 113) d3_99 rfl (by decide) rfl ?_
  refine g_aloadN C (pc' := 114) d3_113 rfl rfl rfl ?_
  refine g_getF C (pc' := 117) (wd hw 14 rfl) Via.refl d3_114 rfl F1 rfl ?_
  refine g_iloadN C (pc' := 118) d3_117 rfl rfl ?_
  refine g_aaload C (pc' := 119) (x := (.ref d)) d3_118 rfl A1 rfl (by decide) (by decide) rfl rfl ?_
  refine g_iloadN C (pc' := 120) d3_119 rfl rfl ?_
  refine g_iloadN C (pc' := 121) d3_120 rfl rfl ?_
  refine g_iastore C (pc' := 122) d3_121 rfl A2 (by decide) (by decide) gd rfl (fun h106 W107 => ?_)
  have f108 := O.wr W107 gd
  have f109 := E0.wr W107
  have f110 := F1.other W107 (Or.inl nad)
  have f111 := F2.other W107 (Or.inl nad)
  have f112 := A1.other W107 nbd
  have f113 := (arv_put A2 rfl W107 (i := 3) rfl (Nat.le_of_ble_eq_true rfl) : Arv Z h106 d kD .int (8 : Int32) [(.int x0), (.int x1), (.int x2), (.int v), (.int x4), (.int x5), (.int x6), (.int x7)] (.int (0 : Int32)))
  have f114 := (Keep.refl h [a, bl, d]).wr W107 (Or.inl (List.mem_of_getElem? (i := 2) rfl))
  refine g_aloadN C (pc' := 123) d3_122 rfl rfl rfl ?_
  refine g_dup C (pc' := 124) d3_123 rfl rfl rfl ?_
  refine g_getF C (pc' := 127) (wd hw 21 rfl) Via.refl d3_124 rfl f111 rfl ?_
  refine g_iconst C (pc' := 128) (v := (1 : Int32)) d3_127 (by decide) rfl ?_
  refine g_iadd C (pc' := 129) d3_128 rfl rfl ?_
  rw [show ((3 : Int32) + (1 : Int32)) = (4 : Int32) from by decide]
  refine g_putF C (pc' := 132) (ty := .int) (wd hw 21 rfl) Via.refl d3_129 rfl f111 f109 (Or.inl (wd hw 22 rfl)) (wd hw 3 rfl) (by decide) rfl rfl ga rfl (fun h115 W116 => ?_)
  have f117 := f108.wr W116 ga
  have f118 := f109.wr W116
  have f119 := f110.other W116 (Or.inr (slot_ne (Or.inl (wd hw 15 rfl)) (Or.inl (wd hw 22 rfl)) (by decide) (t := (.array (.array .int))) (t' := .int) (by decide) (by decide)))
  have f120 := f111.same W116
  have f121 := f112.other W116 (Ne.symm nab)
  have f122 := f113.other W116 (Ne.symm nad)
  have f123 := f114.wr W116 (Or.inl (List.mem_of_getElem? (i := 0) rfl))
  exact g_return C d3_132 rfl (Nat.le_of_ble_eq_true rfl) (Nat.le_of_ble_eq_true rfl) (⟨rfl, f123, ⟨ga, gb, gd, nab, nad, nbd, Ov, f118, f119, f120, f121, f122⟩⟩)
set_option maxRecDepth 65536 in
set_option maxHeartbeats 40000000 in
theorem il_add4 (l : Launch) (Z : State) (a0 : Array Value) (hw : ∀ d ∈ tables_1, d.before a0 Z = true) (n0 : Nat) (h : Heap) (O : Old Z n0 h)  (a bl d : Addr) (kB kD : ClassId) (x0 x1 x2 x3 x4 x5 x6 x7 : Int32) (v : Int32) (P : IL Z n0 h a bl d kB kD (4 : Int32) (8 : Int32) [(.int x0), (.int x1), (.int x2), (.int x3), (.int x4), (.int x5), (.int x6), (.int x7)]) : Con l Z (⟨"com/example/ratatoskr/ratatoskr/index/IntList", "add", "(I)V"⟩ : MethodName) prog_10_method_2_code 4 none ({ frames := 0, cells := 0, slots := 0, locals := 0 } : Room) #[(.ref a), (.int v)] h n0 (fun r h' => r = none ∧ Keep h h' [a, bl, d] ∧ IL Z n0 h' a bl d kB kD (5 : Int32) (8 : Int32) [(.int x0), (.int x1), (.int x2), (.int x3), (.int v), (.int x5), (.int x6), (.int x7)]) := by
  refine Con.mk (Ls := #[.val (.ref a), .val (.int v), .unset, .unset]) (plainFor_of_name pn_0) (fun m => by first | (simp [entryFrame, mkF, argsToLocals, Value.category]; done) | rfl) (fun w C => ?_)
  replace C : Cx w l Z "com/example/ratatoskr/ratatoskr/index/IntList" prog_10_method_2_code 4 none "add" ({ frames := 0, cells := 0, slots := 0, locals := 0 } : Room) n0 := C
  obtain ⟨ga, gb, gd, nab, nad, nbd, Ov, E0, F1, F2, A1, A2⟩ := P
  refine g_aloadN C (pc' := 1) d3_0 rfl rfl rfl ?_
  refine g_getF C (pc' := 4) (wd hw 21 rfl) Via.refl d3_1 rfl F2 rfl ?_
  refine g_bipush C (pc' := 6) (v := (14 : Int32)) d3_4 (by decide) rfl ?_
  refine g_iushr C (pc' := 7) d3_6 rfl rfl ?_
  rw [show (((4 : Int32).toUInt32 >>> ((14 : Int32) &&& 31).toUInt32).toInt32) = (0 : Int32) from by decide]
  refine g_istoreN C (pc' := 8) (Ls' := #[.val (.ref a), .val (.int v), .val (.int (0 : Int32)), .unset]) d3_7 rfl rfl rfl ?_
  refine g_aloadN C (pc' := 9) d3_8 rfl rfl rfl ?_
  refine g_getF C (pc' := 12) (wd hw 21 rfl) Via.refl d3_9 rfl F2 rfl ?_
  refine g_sipush C (pc' := 15) (v := (16383 : Int32)) d3_12 (by decide) rfl ?_
  refine g_iand C (pc' := 16) d3_15 rfl rfl ?_
  rw [show ((4 : Int32) &&& (16383 : Int32)) = (4 : Int32) from by decide]
  refine g_istoreN C (pc' := 17) (Ls' := #[.val (.ref a), .val (.int v), .val (.int (0 : Int32)), .val (.int (4 : Int32))]) d3_16 rfl rfl rfl ?_
  refine g_iloadN C (pc' := 18) d3_17 rfl rfl ?_
  refine g_ifN C (pc' := 21) d3_18 rfl (by decide) rfl ?_
  refine g_iloadN C (pc' := 22) d3_21 rfl rfl ?_
  refine g_aloadN C (pc' := 23) d3_22 rfl rfl rfl ?_
  refine g_getF C (pc' := 26) (wd hw 14 rfl) Via.refl d3_23 rfl F1 rfl ?_
  refine g_iconst C (pc' := 27) (v := (0 : Int32)) d3_26 (by decide) rfl ?_
  refine g_aaload C (pc' := 28) (x := (.ref d)) d3_27 rfl A1 rfl (by decide) (by decide) rfl rfl ?_
  refine g_alen C (pc' := 29) d3_28 rfl A2 rfl ?_
  refine g_icY C (pc' := 53) d3_29 rfl (by decide) (by decide) rfl ?_
  refine g_iloadN C (pc' := 54) d3_53 rfl rfl ?_
  refine g_aloadN C (pc' := 55) d3_54 rfl rfl rfl ?_
  refine g_getF C (pc' := 58) (wd hw 14 rfl) Via.refl d3_55 rfl F1 rfl ?_
  refine g_alen C (pc' := 59) d3_58 rfl A1 rfl ?_
  refine g_icY C (pc' := 93) d3_59 rfl (by decide) (by decide) rfl ?_
  refine g_aloadN C (pc' := 94) d3_93 rfl rfl rfl ?_
  refine g_getF C (pc' := 97) (wd hw 14 rfl) Via.refl d3_94 rfl F1 rfl ?_
  refine g_iloadN C (pc' := 98) d3_97 rfl rfl ?_
  refine g_aaload C (pc' := 99) (x := (.ref d)) d3_98 rfl A1 rfl (by decide) (by decide) rfl rfl ?_
  refine g_ifnonnullY C (pc' := 113) d3_99 rfl (by decide) rfl ?_
  refine g_aloadN C (pc' := 114) d3_113 rfl rfl rfl ?_
  refine g_getF C (pc' := 117) (wd hw 14 rfl) Via.refl d3_114 rfl F1 rfl ?_
  refine g_iloadN C (pc' := 118) d3_117 rfl rfl ?_
  refine g_aaload C (pc' := 119) (x := (.ref d)) d3_118 rfl A1 rfl (by decide) (by decide) rfl rfl ?_
  refine g_iloadN C (pc' := 120) d3_119 rfl rfl ?_
  refine g_iloadN C (pc' := 121) d3_120 rfl rfl ?_
  refine g_iastore C (pc' := 122) d3_121 rfl A2 (by decide) (by decide) gd rfl (fun h124 W125 => ?_)
  have f126 := O.wr W125 gd
  have f127 := E0.wr W125
  have f128 := F1.other W125 (Or.inl nad)
  have f129 := F2.other W125 (Or.inl nad)
  have f130 := A1.other W125 nbd
  have f131 := (arv_put A2 rfl W125 (i := 4) rfl (Nat.le_of_ble_eq_true rfl) : Arv Z h124 d kD .int (8 : Int32) [(.int x0), (.int x1), (.int x2), (.int x3), (.int v), (.int x5), (.int x6), (.int x7)] (.int (0 : Int32)))
  have f132 := (Keep.refl h [a, bl, d]).wr W125 (Or.inl (List.mem_of_getElem? (i := 2) rfl))
  refine g_aloadN C (pc' := 123) d3_122 rfl rfl rfl ?_
  refine g_dup C (pc' := 124) d3_123 rfl rfl rfl ?_
  refine g_getF C (pc' := 127) (wd hw 21 rfl) Via.refl d3_124 rfl f129 rfl ?_
  refine g_iconst C (pc' := 128) (v := (1 : Int32)) d3_127 (by decide) rfl ?_
  refine g_iadd C (pc' := 129) d3_128 rfl rfl ?_
  rw [show ((4 : Int32) + (1 : Int32)) = (5 : Int32) from by decide]
  refine g_putF C (pc' := 132) (ty := .int) (wd hw 21 rfl) Via.refl d3_129 rfl f129 f127 (Or.inl (wd hw 22 rfl)) (wd hw 3 rfl) (by decide) rfl rfl ga rfl (fun h133 W134 => ?_)
  have f135 := f126.wr W134 ga
  have f136 := f127.wr W134
  have f137 := f128.other W134 (Or.inr (slot_ne (Or.inl (wd hw 15 rfl)) (Or.inl (wd hw 22 rfl)) (by decide) (t := (.array (.array .int))) (t' := .int) (by decide) (by decide)))
  have f138 := f129.same W134
  have f139 := f130.other W134 (Ne.symm nab)
  have f140 := f131.other W134 (Ne.symm nad)
  have f141 := f132.wr W134 (Or.inl (List.mem_of_getElem? (i := 0) rfl))
  exact g_return C d3_132 rfl (Nat.le_of_ble_eq_true rfl) (Nat.le_of_ble_eq_true rfl) (⟨rfl, f141, ⟨ga, gb, gd, nab, nad, nbd, Ov, f136, f137, f138, f139, f140⟩⟩)
set_option maxRecDepth 65536 in
set_option maxHeartbeats 40000000 in
theorem il_add5 (l : Launch) (Z : State) (a0 : Array Value) (hw : ∀ d ∈ tables_1, d.before a0 Z = true) (n0 : Nat) (h : Heap) (O : Old Z n0 h)  (a bl d : Addr) (kB kD : ClassId) (x0 x1 x2 x3 x4 x5 x6 x7 : Int32) (v : Int32) (P : IL Z n0 h a bl d kB kD (5 : Int32) (8 : Int32) [(.int x0), (.int x1), (.int x2), (.int x3), (.int x4), (.int x5), (.int x6), (.int x7)]) : Con l Z (⟨"com/example/ratatoskr/ratatoskr/index/IntList", "add", "(I)V"⟩ : MethodName) prog_10_method_2_code 4 none ({ frames := 0, cells := 0, slots := 0, locals := 0 } : Room) #[(.ref a), (.int v)] h n0 (fun r h' => r = none ∧ Keep h h' [a, bl, d] ∧ IL Z n0 h' a bl d kB kD (6 : Int32) (8 : Int32) [(.int x0), (.int x1), (.int x2), (.int x3), (.int x4), (.int v), (.int x6), (.int x7)]) := by
  refine Con.mk (Ls := #[.val (.ref a), .val (.int v), .unset, .unset]) (plainFor_of_name pn_0) (fun m => by first | (simp [entryFrame, mkF, argsToLocals, Value.category]; done) | rfl) (fun w C => ?_)
  replace C : Cx w l Z "com/example/ratatoskr/ratatoskr/index/IntList" prog_10_method_2_code 4 none "add" ({ frames := 0, cells := 0, slots := 0, locals := 0 } : Room) n0 := C
  obtain ⟨ga, gb, gd, nab, nad, nbd, Ov, E0, F1, F2, A1, A2⟩ := P
  refine g_aloadN C (pc' := 1) d3_0 rfl rfl rfl ?_
  refine g_getF C (pc' := 4) (wd hw 21 rfl) Via.refl d3_1 rfl F2 rfl ?_
  refine g_bipush C (pc' := 6) (v := (14 : Int32)) d3_4 (by decide) rfl ?_
  refine g_iushr C (pc' := 7) d3_6 rfl rfl ?_
  rw [show (((5 : Int32).toUInt32 >>> ((14 : Int32) &&& 31).toUInt32).toInt32) = (0 : Int32) from by decide]
  refine g_istoreN C (pc' := 8) (Ls' := #[.val (.ref a), .val (.int v), .val (.int (0 : Int32)), .unset]) d3_7 rfl rfl rfl ?_
  refine g_aloadN C (pc' := 9) d3_8 rfl rfl rfl ?_
  refine g_getF C (pc' := 12) (wd hw 21 rfl) Via.refl d3_9 rfl F2 rfl ?_
  refine g_sipush C (pc' := 15) (v := (16383 : Int32)) d3_12 (by decide) rfl ?_
  refine g_iand C (pc' := 16) d3_15 rfl rfl ?_
  rw [show ((5 : Int32) &&& (16383 : Int32)) = (5 : Int32) from by decide]
  refine g_istoreN C (pc' := 17) (Ls' := #[.val (.ref a), .val (.int v), .val (.int (0 : Int32)), .val (.int (5 : Int32))]) d3_16 rfl rfl rfl ?_
  refine g_iloadN C (pc' := 18) d3_17 rfl rfl ?_
  refine g_ifN C (pc' := 21) d3_18 rfl (by decide) rfl ?_
  refine g_iloadN C (pc' := 22) d3_21 rfl rfl ?_
  refine g_aloadN C (pc' := 23) d3_22 rfl rfl rfl ?_
  refine g_getF C (pc' := 26) (wd hw 14 rfl) Via.refl d3_23 rfl F1 rfl ?_
  refine g_iconst C (pc' := 27) (v := (0 : Int32)) d3_26 (by decide) rfl ?_
  refine g_aaload C (pc' := 28) (x := (.ref d)) d3_27 rfl A1 rfl (by decide) (by decide) rfl rfl ?_
  refine g_alen C (pc' := 29) d3_28 rfl A2 rfl ?_
  refine g_icY C (pc' := 53) d3_29 rfl (by decide) (by decide) rfl ?_
  refine g_iloadN C (pc' := 54) d3_53 rfl rfl ?_
  refine g_aloadN C (pc' := 55) d3_54 rfl rfl rfl ?_
  refine g_getF C (pc' := 58) (wd hw 14 rfl) Via.refl d3_55 rfl F1 rfl ?_
  refine g_alen C (pc' := 59) d3_58 rfl A1 rfl ?_
  refine g_icY C (pc' := 93) d3_59 rfl (by decide) (by decide) rfl ?_
  refine g_aloadN C (pc' := 94) d3_93 rfl rfl rfl ?_
  refine g_getF C (pc' := 97) (wd hw 14 rfl) Via.refl d3_94 rfl F1 rfl ?_
  refine g_iloadN C (pc' := 98) d3_97 rfl rfl ?_
  refine g_aaload C (pc' := 99) (x := (.ref d)) d3_98 rfl A1 rfl (by decide) (by decide) rfl rfl ?_
  refine g_ifnonnullY C (pc' := 113) d3_99 rfl (by decide) rfl ?_
  refine g_aloadN C (pc' := 114) d3_113 rfl rfl rfl ?_
  refine g_getF C (pc' := 117) (wd hw 14 rfl) Via.refl d3_114 rfl F1 rfl ?_
  refine g_iloadN C (pc' := 118) d3_117 rfl rfl ?_
  refine g_aaload C (pc' := 119) (x := (.ref d)) d3_118 rfl A1 rfl (by decide) (by decide) rfl rfl ?_
  refine g_iloadN C (pc' := 120) d3_119 rfl rfl ?_
  refine g_iloadN C (pc' := 121) d3_120 rfl rfl ?_
  refine g_iastore C (pc' := 122) d3_121 rfl A2 (by decide) (by decide) gd rfl (fun h142 W143 => ?_)
  have f144 := O.wr W143 gd
  have f145 := E0.wr W143
  have f146 := F1.other W143 (Or.inl nad)
  have f147 := F2.other W143 (Or.inl nad)
  have f148 := A1.other W143 nbd
  have f149 := (arv_put A2 rfl W143 (i := 5) rfl (Nat.le_of_ble_eq_true rfl) : Arv Z h142 d kD .int (8 : Int32) [(.int x0), (.int x1), (.int x2), (.int x3), (.int x4), (.int v), (.int x6), (.int x7)] (.int (0 : Int32)))
  have f150 := (Keep.refl h [a, bl, d]).wr W143 (Or.inl (List.mem_of_getElem? (i := 2) rfl))
  refine g_aloadN C (pc' := 123) d3_122 rfl rfl rfl ?_
  refine g_dup C (pc' := 124) d3_123 rfl rfl rfl ?_
  refine g_getF C (pc' := 127) (wd hw 21 rfl) Via.refl d3_124 rfl f147 rfl ?_
  refine g_iconst C (pc' := 128) (v := (1 : Int32)) d3_127 (by decide) rfl ?_
  refine g_iadd C (pc' := 129) d3_128 rfl rfl ?_
  rw [show ((5 : Int32) + (1 : Int32)) = (6 : Int32) from by decide]
  refine g_putF C (pc' := 132) (ty := .int) (wd hw 21 rfl) Via.refl d3_129 rfl f147 f145 (Or.inl (wd hw 22 rfl)) (wd hw 3 rfl) (by decide) rfl rfl ga rfl (fun h151 W152 => ?_)
  have f153 := f144.wr W152 ga
  have f154 := f145.wr W152
  have f155 := f146.other W152 (Or.inr (slot_ne (Or.inl (wd hw 15 rfl)) (Or.inl (wd hw 22 rfl)) (by decide) (t := (.array (.array .int))) (t' := .int) (by decide) (by decide)))
  have f156 := f147.same W152
  have f157 := f148.other W152 (Ne.symm nab)
  have f158 := f149.other W152 (Ne.symm nad)
  have f159 := f150.wr W152 (Or.inl (List.mem_of_getElem? (i := 0) rfl))
  exact g_return C d3_132 rfl (Nat.le_of_ble_eq_true rfl) (Nat.le_of_ble_eq_true rfl) (⟨rfl, f159, ⟨ga, gb, gd, nab, nad, nbd, Ov, f154, f155, f156, f157, f158⟩⟩)
set_option maxRecDepth 65536 in
set_option maxHeartbeats 40000000 in
theorem il_add6 (l : Launch) (Z : State) (a0 : Array Value) (hw : ∀ d ∈ tables_1, d.before a0 Z = true) (n0 : Nat) (h : Heap) (O : Old Z n0 h)  (a bl d : Addr) (kB kD : ClassId) (x0 x1 x2 x3 x4 x5 x6 x7 : Int32) (v : Int32) (P : IL Z n0 h a bl d kB kD (6 : Int32) (8 : Int32) [(.int x0), (.int x1), (.int x2), (.int x3), (.int x4), (.int x5), (.int x6), (.int x7)]) : Con l Z (⟨"com/example/ratatoskr/ratatoskr/index/IntList", "add", "(I)V"⟩ : MethodName) prog_10_method_2_code 4 none ({ frames := 0, cells := 0, slots := 0, locals := 0 } : Room) #[(.ref a), (.int v)] h n0 (fun r h' => r = none ∧ Keep h h' [a, bl, d] ∧ IL Z n0 h' a bl d kB kD (7 : Int32) (8 : Int32) [(.int x0), (.int x1), (.int x2), (.int x3), (.int x4), (.int x5), (.int v), (.int x7)]) := by
  refine Con.mk (Ls := #[.val (.ref a), .val (.int v), .unset, .unset]) (plainFor_of_name pn_0) (fun m => by first | (simp [entryFrame, mkF, argsToLocals, Value.category]; done) | rfl) (fun w C => ?_)
  replace C : Cx w l Z "com/example/ratatoskr/ratatoskr/index/IntList" prog_10_method_2_code 4 none "add" ({ frames := 0, cells := 0, slots := 0, locals := 0 } : Room) n0 := C
  obtain ⟨ga, gb, gd, nab, nad, nbd, Ov, E0, F1, F2, A1, A2⟩ := P
  refine g_aloadN C (pc' := 1) d3_0 rfl rfl rfl ?_
  refine g_getF C (pc' := 4) (wd hw 21 rfl) Via.refl d3_1 rfl F2 rfl ?_
  refine g_bipush C (pc' := 6) (v := (14 : Int32)) d3_4 (by decide) rfl ?_
  refine g_iushr C (pc' := 7) d3_6 rfl rfl ?_
  rw [show (((6 : Int32).toUInt32 >>> ((14 : Int32) &&& 31).toUInt32).toInt32) = (0 : Int32) from by decide]
  refine g_istoreN C (pc' := 8) (Ls' := #[.val (.ref a), .val (.int v), .val (.int (0 : Int32)), .unset]) d3_7 rfl rfl rfl ?_
  refine g_aloadN C (pc' := 9) d3_8 rfl rfl rfl ?_
  refine g_getF C (pc' := 12) (wd hw 21 rfl) Via.refl d3_9 rfl F2 rfl ?_
  refine g_sipush C (pc' := 15) (v := (16383 : Int32)) d3_12 (by decide) rfl ?_
  refine g_iand C (pc' := 16) d3_15 rfl rfl ?_
  rw [show ((6 : Int32) &&& (16383 : Int32)) = (6 : Int32) from by decide]
  refine g_istoreN C (pc' := 17) (Ls' := #[.val (.ref a), .val (.int v), .val (.int (0 : Int32)), .val (.int (6 : Int32))]) d3_16 rfl rfl rfl ?_
  refine g_iloadN C (pc' := 18) d3_17 rfl rfl ?_
  refine g_ifN C (pc' := 21) d3_18 rfl (by decide) rfl ?_
  refine g_iloadN C (pc' := 22) d3_21 rfl rfl ?_
  refine g_aloadN C (pc' := 23) d3_22 rfl rfl rfl ?_
  refine g_getF C (pc' := 26) (wd hw 14 rfl) Via.refl d3_23 rfl F1 rfl ?_
  refine g_iconst C (pc' := 27) (v := (0 : Int32)) d3_26 (by decide) rfl ?_
  refine g_aaload C (pc' := 28) (x := (.ref d)) d3_27 rfl A1 rfl (by decide) (by decide) rfl rfl ?_
  refine g_alen C (pc' := 29) d3_28 rfl A2 rfl ?_
  refine g_icY C (pc' := 53) d3_29 rfl (by decide) (by decide) rfl ?_
  refine g_iloadN C (pc' := 54) d3_53 rfl rfl ?_
  refine g_aloadN C (pc' := 55) d3_54 rfl rfl rfl ?_
  refine g_getF C (pc' := 58) (wd hw 14 rfl) Via.refl d3_55 rfl F1 rfl ?_
  refine g_alen C (pc' := 59) d3_58 rfl A1 rfl ?_
  refine g_icY C (pc' := 93) d3_59 rfl (by decide) (by decide) rfl ?_
  refine g_aloadN C (pc' := 94) d3_93 rfl rfl rfl ?_
  refine g_getF C (pc' := 97) (wd hw 14 rfl) Via.refl d3_94 rfl F1 rfl ?_
  refine g_iloadN C (pc' := 98) d3_97 rfl rfl ?_
  refine g_aaload C (pc' := 99) (x := (.ref d)) d3_98 rfl A1 rfl (by decide) (by decide) rfl rfl ?_
  refine g_ifnonnullY C (pc' := 113) d3_99 rfl (by decide) rfl ?_
  refine g_aloadN C (pc' := 114) d3_113 rfl rfl rfl ?_
  refine g_getF C (pc' := 117) (wd hw 14 rfl) Via.refl d3_114 rfl F1 rfl ?_
  refine g_iloadN C (pc' := 118) d3_117 rfl rfl ?_
  refine g_aaload C (pc' := 119) (x := (.ref d)) d3_118 rfl A1 rfl (by decide) (by decide) rfl rfl ?_
  refine g_iloadN C (pc' := 120) d3_119 rfl rfl ?_
  refine g_iloadN C (pc' := 121) d3_120 rfl rfl ?_
  refine g_iastore C (pc' := 122) d3_121 rfl A2 (by decide) (by decide) gd rfl (fun h160 W161 => ?_)
  have f162 := O.wr W161 gd
  have f163 := E0.wr W161
  have f164 := F1.other W161 (Or.inl nad)
  have f165 := F2.other W161 (Or.inl nad)
  have f166 := A1.other W161 nbd
  have f167 := (arv_put A2 rfl W161 (i := 6) rfl (Nat.le_of_ble_eq_true rfl) : Arv Z h160 d kD .int (8 : Int32) [(.int x0), (.int x1), (.int x2), (.int x3), (.int x4), (.int x5), (.int v), (.int x7)] (.int (0 : Int32)))
  have f168 := (Keep.refl h [a, bl, d]).wr W161 (Or.inl (List.mem_of_getElem? (i := 2) rfl))
  refine g_aloadN C (pc' := 123) d3_122 rfl rfl rfl ?_
  refine g_dup C (pc' := 124) d3_123 rfl rfl rfl ?_
  refine g_getF C (pc' := 127) (wd hw 21 rfl) Via.refl d3_124 rfl f165 rfl ?_
  refine g_iconst C (pc' := 128) (v := (1 : Int32)) d3_127 (by decide) rfl ?_
  refine g_iadd C (pc' := 129) d3_128 rfl rfl ?_
  rw [show ((6 : Int32) + (1 : Int32)) = (7 : Int32) from by decide]
  refine g_putF C (pc' := 132) (ty := .int) (wd hw 21 rfl) Via.refl d3_129 rfl f165 f163 (Or.inl (wd hw 22 rfl)) (wd hw 3 rfl) (by decide) rfl rfl ga rfl (fun h169 W170 => ?_)
  have f171 := f162.wr W170 ga
  have f172 := f163.wr W170
  have f173 := f164.other W170 (Or.inr (slot_ne (Or.inl (wd hw 15 rfl)) (Or.inl (wd hw 22 rfl)) (by decide) (t := (.array (.array .int))) (t' := .int) (by decide) (by decide)))
  have f174 := f165.same W170
  have f175 := f166.other W170 (Ne.symm nab)
  have f176 := f167.other W170 (Ne.symm nad)
  have f177 := f168.wr W170 (Or.inl (List.mem_of_getElem? (i := 0) rfl))
  exact g_return C d3_132 rfl (Nat.le_of_ble_eq_true rfl) (Nat.le_of_ble_eq_true rfl) (⟨rfl, f177, ⟨ga, gb, gd, nab, nad, nbd, Ov, f172, f173, f174, f175, f176⟩⟩)
set_option maxRecDepth 65536 in
set_option maxHeartbeats 40000000 in
theorem il_add7 (l : Launch) (Z : State) (a0 : Array Value) (hw : ∀ d ∈ tables_1, d.before a0 Z = true) (n0 : Nat) (h : Heap) (O : Old Z n0 h)  (a bl d : Addr) (kB kD : ClassId) (x0 x1 x2 x3 x4 x5 x6 x7 : Int32) (v : Int32) (P : IL Z n0 h a bl d kB kD (7 : Int32) (8 : Int32) [(.int x0), (.int x1), (.int x2), (.int x3), (.int x4), (.int x5), (.int x6), (.int x7)]) : Con l Z (⟨"com/example/ratatoskr/ratatoskr/index/IntList", "add", "(I)V"⟩ : MethodName) prog_10_method_2_code 4 none ({ frames := 0, cells := 0, slots := 0, locals := 0 } : Room) #[(.ref a), (.int v)] h n0 (fun r h' => r = none ∧ Keep h h' [a, bl, d] ∧ IL Z n0 h' a bl d kB kD (8 : Int32) (8 : Int32) [(.int x0), (.int x1), (.int x2), (.int x3), (.int x4), (.int x5), (.int x6), (.int v)]) := by
  refine Con.mk (Ls := #[.val (.ref a), .val (.int v), .unset, .unset]) (plainFor_of_name pn_0) (fun m => by first | (simp [entryFrame, mkF, argsToLocals, Value.category]; done) | rfl) (fun w C => ?_)
  replace C : Cx w l Z "com/example/ratatoskr/ratatoskr/index/IntList" prog_10_method_2_code 4 none "add" ({ frames := 0, cells := 0, slots := 0, locals := 0 } : Room) n0 := C
  obtain ⟨ga, gb, gd, nab, nad, nbd, Ov, E0, F1, F2, A1, A2⟩ := P
  refine g_aloadN C (pc' := 1) d3_0 rfl rfl rfl ?_
  refine g_getF C (pc' := 4) (wd hw 21 rfl) Via.refl d3_1 rfl F2 rfl ?_
  refine g_bipush C (pc' := 6) (v := (14 : Int32)) d3_4 (by decide) rfl ?_
  refine g_iushr C (pc' := 7) d3_6 rfl rfl ?_
  rw [show (((7 : Int32).toUInt32 >>> ((14 : Int32) &&& 31).toUInt32).toInt32) = (0 : Int32) from by decide]
  refine g_istoreN C (pc' := 8) (Ls' := #[.val (.ref a), .val (.int v), .val (.int (0 : Int32)), .unset]) d3_7 rfl rfl rfl ?_
  refine g_aloadN C (pc' := 9) d3_8 rfl rfl rfl ?_
  refine g_getF C (pc' := 12) (wd hw 21 rfl) Via.refl d3_9 rfl F2 rfl ?_
  refine g_sipush C (pc' := 15) (v := (16383 : Int32)) d3_12 (by decide) rfl ?_
  refine g_iand C (pc' := 16) d3_15 rfl rfl ?_
  rw [show ((7 : Int32) &&& (16383 : Int32)) = (7 : Int32) from by decide]
  refine g_istoreN C (pc' := 17) (Ls' := #[.val (.ref a), .val (.int v), .val (.int (0 : Int32)), .val (.int (7 : Int32))]) d3_16 rfl rfl rfl ?_
  refine g_iloadN C (pc' := 18) d3_17 rfl rfl ?_
  refine g_ifN C (pc' := 21) d3_18 rfl (by decide) rfl ?_
  refine g_iloadN C (pc' := 22) d3_21 rfl rfl ?_
  refine g_aloadN C (pc' := 23) d3_22 rfl rfl rfl ?_
  refine g_getF C (pc' := 26) (wd hw 14 rfl) Via.refl d3_23 rfl F1 rfl ?_
  refine g_iconst C (pc' := 27) (v := (0 : Int32)) d3_26 (by decide) rfl ?_
  refine g_aaload C (pc' := 28) (x := (.ref d)) d3_27 rfl A1 rfl (by decide) (by decide) rfl rfl ?_
  refine g_alen C (pc' := 29) d3_28 rfl A2 rfl ?_
  refine g_icY C (pc' := 53) d3_29 rfl (by decide) (by decide) rfl ?_
  refine g_iloadN C (pc' := 54) d3_53 rfl rfl ?_
  refine g_aloadN C (pc' := 55) d3_54 rfl rfl rfl ?_
  refine g_getF C (pc' := 58) (wd hw 14 rfl) Via.refl d3_55 rfl F1 rfl ?_
  refine g_alen C (pc' := 59) d3_58 rfl A1 rfl ?_
  refine g_icY C (pc' := 93) d3_59 rfl (by decide) (by decide) rfl ?_
  refine g_aloadN C (pc' := 94) d3_93 rfl rfl rfl ?_
  refine g_getF C (pc' := 97) (wd hw 14 rfl) Via.refl d3_94 rfl F1 rfl ?_
  refine g_iloadN C (pc' := 98) d3_97 rfl rfl ?_
  refine g_aaload C (pc' := 99) (x := (.ref d)) d3_98 rfl A1 rfl (by decide) (by decide) rfl rfl ?_
  refine g_ifnonnullY C (pc' := 113) d3_99 rfl (by decide) rfl ?_
  refine g_aloadN C (pc' := 114) d3_113 rfl rfl rfl ?_
  refine g_getF C (pc' := 117) (wd hw 14 rfl) Via.refl d3_114 rfl F1 rfl ?_
  refine g_iloadN C (pc' := 118) d3_117 rfl rfl ?_
  refine g_aaload C (pc' := 119) (x := (.ref d)) d3_118 rfl A1 rfl (by decide) (by decide) rfl rfl ?_
  refine g_iloadN C (pc' := 120) d3_119 rfl rfl ?_
  refine g_iloadN C (pc' := 121) d3_120 rfl rfl ?_
  refine g_iastore C (pc' := 122) d3_121 rfl A2 (by decide) (by decide) gd rfl (fun h178 W179 => ?_)
  have f180 := O.wr W179 gd
  have f181 := E0.wr W179
  have f182 := F1.other W179 (Or.inl nad)
  have f183 := F2.other W179 (Or.inl nad)
  have f184 := A1.other W179 nbd
  have f185 := (arv_put A2 rfl W179 (i := 7) rfl (Nat.le_of_ble_eq_true rfl) : Arv Z h178 d kD .int (8 : Int32) [(.int x0), (.int x1), (.int x2), (.int x3), (.int x4), (.int x5), (.int x6), (.int v)] (.int (0 : Int32)))
  have f186 := (Keep.refl h [a, bl, d]).wr W179 (Or.inl (List.mem_of_getElem? (i := 2) rfl))
  refine g_aloadN C (pc' := 123) d3_122 rfl rfl rfl ?_
  refine g_dup C (pc' := 124) d3_123 rfl rfl rfl ?_
  refine g_getF C (pc' := 127) (wd hw 21 rfl) Via.refl d3_124 rfl f183 rfl ?_
  refine g_iconst C (pc' := 128) (v := (1 : Int32)) d3_127 (by decide) rfl ?_
  refine g_iadd C (pc' := 129) d3_128 rfl rfl ?_
  rw [show ((7 : Int32) + (1 : Int32)) = (8 : Int32) from by decide]
  refine g_putF C (pc' := 132) (ty := .int) (wd hw 21 rfl) Via.refl d3_129 rfl f183 f181 (Or.inl (wd hw 22 rfl)) (wd hw 3 rfl) (by decide) rfl rfl ga rfl (fun h187 W188 => ?_)
  have f189 := f180.wr W188 ga
  have f190 := f181.wr W188
  have f191 := f182.other W188 (Or.inr (slot_ne (Or.inl (wd hw 15 rfl)) (Or.inl (wd hw 22 rfl)) (by decide) (t := (.array (.array .int))) (t' := .int) (by decide) (by decide)))
  have f192 := f183.same W188
  have f193 := f184.other W188 (Ne.symm nab)
  have f194 := f185.other W188 (Ne.symm nad)
  have f195 := f186.wr W188 (Or.inl (List.mem_of_getElem? (i := 0) rfl))
  exact g_return C d3_132 rfl (Nat.le_of_ble_eq_true rfl) (Nat.le_of_ble_eq_true rfl) (⟨rfl, f195, ⟨ga, gb, gd, nab, nad, nbd, Ov, f190, f191, f192, f193, f194⟩⟩)
theorem d6_0 : decode prog_10_method_3_code 0 = .ok (.aload_n 0, 1) := by decide +kernel
theorem d6_1 : decode prog_10_method_3_code 1 = .ok (.getfield 11, 3) := by decide +kernel
theorem d6_4 : decode prog_10_method_3_code 4 = .ok (.iload_n 1, 1) := by decide +kernel
theorem d6_5 : decode prog_10_method_3_code 5 = .ok (.bipush 14, 2) := by decide +kernel
theorem d6_7 : decode prog_10_method_3_code 7 = .ok (.iushr, 1) := by decide +kernel
theorem d6_8 : decode prog_10_method_3_code 8 = .ok (.aaload, 1) := by decide +kernel
theorem d6_9 : decode prog_10_method_3_code 9 = .ok (.iload_n 1, 1) := by decide +kernel
theorem d6_10 : decode prog_10_method_3_code 10 = .ok (.sipush 16383, 3) := by decide +kernel
theorem d6_13 : decode prog_10_method_3_code 13 = .ok (.iand, 1) := by decide +kernel
theorem d6_14 : decode prog_10_method_3_code 14 = .ok (.iaload, 1) := by decide +kernel
theorem d6_15 : decode prog_10_method_3_code 15 = .ok (.ireturn, 1) := by decide +kernel
set_option maxRecDepth 65536 in
set_option maxHeartbeats 40000000 in
theorem il_get9_0 (l : Launch) (Z : State) (a0 : Array Value) (hw : ∀ d ∈ tables_1, d.before a0 Z = true) (n0 : Nat) (h : Heap) (O : Old Z n0 h)  (a bl d : Addr) (kB kD : ClassId) (x0 x1 x2 x3 x4 x5 x6 x7 x8 x9 x10 x11 x12 x13 x14 x15 : Int32) (P : IL Z n0 h a bl d kB kD (9 : Int32) (16 : Int32) [(.int x0), (.int x1), (.int x2), (.int x3), (.int x4), (.int x5), (.int x6), (.int x7), (.int x8), (.int x9), (.int x10), (.int x11), (.int x12), (.int x13), (.int x14), (.int x15)]) : Con l Z (⟨"com/example/ratatoskr/ratatoskr/index/IntList", "get", "(I)I"⟩ : MethodName) prog_10_method_3_code 2 (some .int) ({ frames := 0, cells := 0, slots := 0, locals := 0 } : Room) #[(.ref a), (.int (0 : Int32))] h n0 (fun r h' => r = some (.int x0) ∧ h' = h) := by
  refine Con.mk (Ls := #[.val (.ref a), .val (.int (0 : Int32))]) (plainFor_of_name pn_0) (fun m => by first | (simp [entryFrame, mkF, argsToLocals, Value.category]; done) | rfl) (fun w C => ?_)
  replace C : Cx w l Z "com/example/ratatoskr/ratatoskr/index/IntList" prog_10_method_3_code 2 (some .int) "get" ({ frames := 0, cells := 0, slots := 0, locals := 0 } : Room) n0 := C
  obtain ⟨ga, gb, gd, nab, nad, nbd, Ov, E0, F1, F2, A1, A2⟩ := P
  refine g_aloadN C (pc' := 1) d6_0 rfl rfl rfl ?_
  refine g_getF C (pc' := 4) (wd hw 14 rfl) Via.refl d6_1 rfl F1 rfl ?_
  refine g_iloadN C (pc' := 5) d6_4 rfl rfl ?_
  refine g_bipush C (pc' := 7) (v := (14 : Int32)) d6_5 (by decide) rfl ?_
  refine g_iushr C (pc' := 8) d6_7 rfl rfl ?_
  rw [show (((0 : Int32).toUInt32 >>> ((14 : Int32) &&& 31).toUInt32).toInt32) = (0 : Int32) from by decide]
  refine g_aaload C (pc' := 9) (x := (.ref d)) d6_8 rfl A1 rfl (by decide) (by decide) rfl rfl ?_
  refine g_iloadN C (pc' := 10) d6_9 rfl rfl ?_
  refine g_sipush C (pc' := 13) (v := (16383 : Int32)) d6_10 (by decide) rfl ?_
  refine g_iand C (pc' := 14) d6_13 rfl rfl ?_
  rw [show ((0 : Int32) &&& (16383 : Int32)) = (0 : Int32) from by decide]
  refine g_iaload C (pc' := 15) (x := x0) d6_14 rfl A2 (by decide) (by decide) rfl rfl ?_
  exact g_ireturn C d6_15 rfl (Nat.le_of_ble_eq_true rfl) (Nat.le_of_ble_eq_true rfl) (⟨rfl, rfl⟩)
set_option maxRecDepth 65536 in
set_option maxHeartbeats 40000000 in
theorem il_get9_1 (l : Launch) (Z : State) (a0 : Array Value) (hw : ∀ d ∈ tables_1, d.before a0 Z = true) (n0 : Nat) (h : Heap) (O : Old Z n0 h)  (a bl d : Addr) (kB kD : ClassId) (x0 x1 x2 x3 x4 x5 x6 x7 x8 x9 x10 x11 x12 x13 x14 x15 : Int32) (P : IL Z n0 h a bl d kB kD (9 : Int32) (16 : Int32) [(.int x0), (.int x1), (.int x2), (.int x3), (.int x4), (.int x5), (.int x6), (.int x7), (.int x8), (.int x9), (.int x10), (.int x11), (.int x12), (.int x13), (.int x14), (.int x15)]) : Con l Z (⟨"com/example/ratatoskr/ratatoskr/index/IntList", "get", "(I)I"⟩ : MethodName) prog_10_method_3_code 2 (some .int) ({ frames := 0, cells := 0, slots := 0, locals := 0 } : Room) #[(.ref a), (.int (1 : Int32))] h n0 (fun r h' => r = some (.int x1) ∧ h' = h) := by
  refine Con.mk (Ls := #[.val (.ref a), .val (.int (1 : Int32))]) (plainFor_of_name pn_0) (fun m => by first | (simp [entryFrame, mkF, argsToLocals, Value.category]; done) | rfl) (fun w C => ?_)
  replace C : Cx w l Z "com/example/ratatoskr/ratatoskr/index/IntList" prog_10_method_3_code 2 (some .int) "get" ({ frames := 0, cells := 0, slots := 0, locals := 0 } : Room) n0 := C
  obtain ⟨ga, gb, gd, nab, nad, nbd, Ov, E0, F1, F2, A1, A2⟩ := P
  refine g_aloadN C (pc' := 1) d6_0 rfl rfl rfl ?_
  refine g_getF C (pc' := 4) (wd hw 14 rfl) Via.refl d6_1 rfl F1 rfl ?_
  refine g_iloadN C (pc' := 5) d6_4 rfl rfl ?_
  refine g_bipush C (pc' := 7) (v := (14 : Int32)) d6_5 (by decide) rfl ?_
  refine g_iushr C (pc' := 8) d6_7 rfl rfl ?_
  rw [show (((1 : Int32).toUInt32 >>> ((14 : Int32) &&& 31).toUInt32).toInt32) = (0 : Int32) from by decide]
  refine g_aaload C (pc' := 9) (x := (.ref d)) d6_8 rfl A1 rfl (by decide) (by decide) rfl rfl ?_
  refine g_iloadN C (pc' := 10) d6_9 rfl rfl ?_
  refine g_sipush C (pc' := 13) (v := (16383 : Int32)) d6_10 (by decide) rfl ?_
  refine g_iand C (pc' := 14) d6_13 rfl rfl ?_
  rw [show ((1 : Int32) &&& (16383 : Int32)) = (1 : Int32) from by decide]
  refine g_iaload C (pc' := 15) (x := x1) d6_14 rfl A2 (by decide) (by decide) rfl rfl ?_
  exact g_ireturn C d6_15 rfl (Nat.le_of_ble_eq_true rfl) (Nat.le_of_ble_eq_true rfl) (⟨rfl, rfl⟩)
set_option maxRecDepth 65536 in
set_option maxHeartbeats 40000000 in
theorem il_get9_2 (l : Launch) (Z : State) (a0 : Array Value) (hw : ∀ d ∈ tables_1, d.before a0 Z = true) (n0 : Nat) (h : Heap) (O : Old Z n0 h)  (a bl d : Addr) (kB kD : ClassId) (x0 x1 x2 x3 x4 x5 x6 x7 x8 x9 x10 x11 x12 x13 x14 x15 : Int32) (P : IL Z n0 h a bl d kB kD (9 : Int32) (16 : Int32) [(.int x0), (.int x1), (.int x2), (.int x3), (.int x4), (.int x5), (.int x6), (.int x7), (.int x8), (.int x9), (.int x10), (.int x11), (.int x12), (.int x13), (.int x14), (.int x15)]) : Con l Z (⟨"com/example/ratatoskr/ratatoskr/index/IntList", "get", "(I)I"⟩ : MethodName) prog_10_method_3_code 2 (some .int) ({ frames := 0, cells := 0, slots := 0, locals := 0 } : Room) #[(.ref a), (.int (2 : Int32))] h n0 (fun r h' => r = some (.int x2) ∧ h' = h) := by
  refine Con.mk (Ls := #[.val (.ref a), .val (.int (2 : Int32))]) (plainFor_of_name pn_0) (fun m => by first | (simp [entryFrame, mkF, argsToLocals, Value.category]; done) | rfl) (fun w C => ?_)
  replace C : Cx w l Z "com/example/ratatoskr/ratatoskr/index/IntList" prog_10_method_3_code 2 (some .int) "get" ({ frames := 0, cells := 0, slots := 0, locals := 0 } : Room) n0 := C
  obtain ⟨ga, gb, gd, nab, nad, nbd, Ov, E0, F1, F2, A1, A2⟩ := P
  refine g_aloadN C (pc' := 1) d6_0 rfl rfl rfl ?_
  refine g_getF C (pc' := 4) (wd hw 14 rfl) Via.refl d6_1 rfl F1 rfl ?_
  refine g_iloadN C (pc' := 5) d6_4 rfl rfl ?_
  refine g_bipush C (pc' := 7) (v := (14 : Int32)) d6_5 (by decide) rfl ?_
  refine g_iushr C (pc' := 8) d6_7 rfl rfl ?_
  rw [show (((2 : Int32).toUInt32 >>> ((14 : Int32) &&& 31).toUInt32).toInt32) = (0 : Int32) from by decide]
  refine g_aaload C (pc' := 9) (x := (.ref d)) d6_8 rfl A1 rfl (by decide) (by decide) rfl rfl ?_
  refine g_iloadN C (pc' := 10) d6_9 rfl rfl ?_
  refine g_sipush C (pc' := 13) (v := (16383 : Int32)) d6_10 (by decide) rfl ?_
  refine g_iand C (pc' := 14) d6_13 rfl rfl ?_
  rw [show ((2 : Int32) &&& (16383 : Int32)) = (2 : Int32) from by decide]
  refine g_iaload C (pc' := 15) (x := x2) d6_14 rfl A2 (by decide) (by decide) rfl rfl ?_
  exact g_ireturn C d6_15 rfl (Nat.le_of_ble_eq_true rfl) (Nat.le_of_ble_eq_true rfl) (⟨rfl, rfl⟩)
set_option maxRecDepth 65536 in
set_option maxHeartbeats 40000000 in
theorem il_get9_3 (l : Launch) (Z : State) (a0 : Array Value) (hw : ∀ d ∈ tables_1, d.before a0 Z = true) (n0 : Nat) (h : Heap) (O : Old Z n0 h)  (a bl d : Addr) (kB kD : ClassId) (x0 x1 x2 x3 x4 x5 x6 x7 x8 x9 x10 x11 x12 x13 x14 x15 : Int32) (P : IL Z n0 h a bl d kB kD (9 : Int32) (16 : Int32) [(.int x0), (.int x1), (.int x2), (.int x3), (.int x4), (.int x5), (.int x6), (.int x7), (.int x8), (.int x9), (.int x10), (.int x11), (.int x12), (.int x13), (.int x14), (.int x15)]) : Con l Z (⟨"com/example/ratatoskr/ratatoskr/index/IntList", "get", "(I)I"⟩ : MethodName) prog_10_method_3_code 2 (some .int) ({ frames := 0, cells := 0, slots := 0, locals := 0 } : Room) #[(.ref a), (.int (3 : Int32))] h n0 (fun r h' => r = some (.int x3) ∧ h' = h) := by
  refine Con.mk (Ls := #[.val (.ref a), .val (.int (3 : Int32))]) (plainFor_of_name pn_0) (fun m => by first | (simp [entryFrame, mkF, argsToLocals, Value.category]; done) | rfl) (fun w C => ?_)
  replace C : Cx w l Z "com/example/ratatoskr/ratatoskr/index/IntList" prog_10_method_3_code 2 (some .int) "get" ({ frames := 0, cells := 0, slots := 0, locals := 0 } : Room) n0 := C
  obtain ⟨ga, gb, gd, nab, nad, nbd, Ov, E0, F1, F2, A1, A2⟩ := P
  refine g_aloadN C (pc' := 1) d6_0 rfl rfl rfl ?_
  refine g_getF C (pc' := 4) (wd hw 14 rfl) Via.refl d6_1 rfl F1 rfl ?_
  refine g_iloadN C (pc' := 5) d6_4 rfl rfl ?_
  refine g_bipush C (pc' := 7) (v := (14 : Int32)) d6_5 (by decide) rfl ?_
  refine g_iushr C (pc' := 8) d6_7 rfl rfl ?_
  rw [show (((3 : Int32).toUInt32 >>> ((14 : Int32) &&& 31).toUInt32).toInt32) = (0 : Int32) from by decide]
  refine g_aaload C (pc' := 9) (x := (.ref d)) d6_8 rfl A1 rfl (by decide) (by decide) rfl rfl ?_
  refine g_iloadN C (pc' := 10) d6_9 rfl rfl ?_
  refine g_sipush C (pc' := 13) (v := (16383 : Int32)) d6_10 (by decide) rfl ?_
  refine g_iand C (pc' := 14) d6_13 rfl rfl ?_
  rw [show ((3 : Int32) &&& (16383 : Int32)) = (3 : Int32) from by decide]
  refine g_iaload C (pc' := 15) (x := x3) d6_14 rfl A2 (by decide) (by decide) rfl rfl ?_
  exact g_ireturn C d6_15 rfl (Nat.le_of_ble_eq_true rfl) (Nat.le_of_ble_eq_true rfl) (⟨rfl, rfl⟩)
set_option maxRecDepth 65536 in
set_option maxHeartbeats 40000000 in
theorem il_get9_4 (l : Launch) (Z : State) (a0 : Array Value) (hw : ∀ d ∈ tables_1, d.before a0 Z = true) (n0 : Nat) (h : Heap) (O : Old Z n0 h)  (a bl d : Addr) (kB kD : ClassId) (x0 x1 x2 x3 x4 x5 x6 x7 x8 x9 x10 x11 x12 x13 x14 x15 : Int32) (P : IL Z n0 h a bl d kB kD (9 : Int32) (16 : Int32) [(.int x0), (.int x1), (.int x2), (.int x3), (.int x4), (.int x5), (.int x6), (.int x7), (.int x8), (.int x9), (.int x10), (.int x11), (.int x12), (.int x13), (.int x14), (.int x15)]) : Con l Z (⟨"com/example/ratatoskr/ratatoskr/index/IntList", "get", "(I)I"⟩ : MethodName) prog_10_method_3_code 2 (some .int) ({ frames := 0, cells := 0, slots := 0, locals := 0 } : Room) #[(.ref a), (.int (4 : Int32))] h n0 (fun r h' => r = some (.int x4) ∧ h' = h) := by
  refine Con.mk (Ls := #[.val (.ref a), .val (.int (4 : Int32))]) (plainFor_of_name pn_0) (fun m => by first | (simp [entryFrame, mkF, argsToLocals, Value.category]; done) | rfl) (fun w C => ?_)
  replace C : Cx w l Z "com/example/ratatoskr/ratatoskr/index/IntList" prog_10_method_3_code 2 (some .int) "get" ({ frames := 0, cells := 0, slots := 0, locals := 0 } : Room) n0 := C
  obtain ⟨ga, gb, gd, nab, nad, nbd, Ov, E0, F1, F2, A1, A2⟩ := P
  refine g_aloadN C (pc' := 1) d6_0 rfl rfl rfl ?_
  refine g_getF C (pc' := 4) (wd hw 14 rfl) Via.refl d6_1 rfl F1 rfl ?_
  refine g_iloadN C (pc' := 5) d6_4 rfl rfl ?_
  refine g_bipush C (pc' := 7) (v := (14 : Int32)) d6_5 (by decide) rfl ?_
  refine g_iushr C (pc' := 8) d6_7 rfl rfl ?_
  rw [show (((4 : Int32).toUInt32 >>> ((14 : Int32) &&& 31).toUInt32).toInt32) = (0 : Int32) from by decide]
  refine g_aaload C (pc' := 9) (x := (.ref d)) d6_8 rfl A1 rfl (by decide) (by decide) rfl rfl ?_
  refine g_iloadN C (pc' := 10) d6_9 rfl rfl ?_
  refine g_sipush C (pc' := 13) (v := (16383 : Int32)) d6_10 (by decide) rfl ?_
  refine g_iand C (pc' := 14) d6_13 rfl rfl ?_
  rw [show ((4 : Int32) &&& (16383 : Int32)) = (4 : Int32) from by decide]
  refine g_iaload C (pc' := 15) (x := x4) d6_14 rfl A2 (by decide) (by decide) rfl rfl ?_
  exact g_ireturn C d6_15 rfl (Nat.le_of_ble_eq_true rfl) (Nat.le_of_ble_eq_true rfl) (⟨rfl, rfl⟩)
set_option maxRecDepth 65536 in
set_option maxHeartbeats 40000000 in
theorem il_get9_5 (l : Launch) (Z : State) (a0 : Array Value) (hw : ∀ d ∈ tables_1, d.before a0 Z = true) (n0 : Nat) (h : Heap) (O : Old Z n0 h)  (a bl d : Addr) (kB kD : ClassId) (x0 x1 x2 x3 x4 x5 x6 x7 x8 x9 x10 x11 x12 x13 x14 x15 : Int32) (P : IL Z n0 h a bl d kB kD (9 : Int32) (16 : Int32) [(.int x0), (.int x1), (.int x2), (.int x3), (.int x4), (.int x5), (.int x6), (.int x7), (.int x8), (.int x9), (.int x10), (.int x11), (.int x12), (.int x13), (.int x14), (.int x15)]) : Con l Z (⟨"com/example/ratatoskr/ratatoskr/index/IntList", "get", "(I)I"⟩ : MethodName) prog_10_method_3_code 2 (some .int) ({ frames := 0, cells := 0, slots := 0, locals := 0 } : Room) #[(.ref a), (.int (5 : Int32))] h n0 (fun r h' => r = some (.int x5) ∧ h' = h) := by
  refine Con.mk (Ls := #[.val (.ref a), .val (.int (5 : Int32))]) (plainFor_of_name pn_0) (fun m => by first | (simp [entryFrame, mkF, argsToLocals, Value.category]; done) | rfl) (fun w C => ?_)
  replace C : Cx w l Z "com/example/ratatoskr/ratatoskr/index/IntList" prog_10_method_3_code 2 (some .int) "get" ({ frames := 0, cells := 0, slots := 0, locals := 0 } : Room) n0 := C
  obtain ⟨ga, gb, gd, nab, nad, nbd, Ov, E0, F1, F2, A1, A2⟩ := P
  refine g_aloadN C (pc' := 1) d6_0 rfl rfl rfl ?_
  refine g_getF C (pc' := 4) (wd hw 14 rfl) Via.refl d6_1 rfl F1 rfl ?_
  refine g_iloadN C (pc' := 5) d6_4 rfl rfl ?_
  refine g_bipush C (pc' := 7) (v := (14 : Int32)) d6_5 (by decide) rfl ?_
  refine g_iushr C (pc' := 8) d6_7 rfl rfl ?_
  rw [show (((5 : Int32).toUInt32 >>> ((14 : Int32) &&& 31).toUInt32).toInt32) = (0 : Int32) from by decide]
  refine g_aaload C (pc' := 9) (x := (.ref d)) d6_8 rfl A1 rfl (by decide) (by decide) rfl rfl ?_
  refine g_iloadN C (pc' := 10) d6_9 rfl rfl ?_
  refine g_sipush C (pc' := 13) (v := (16383 : Int32)) d6_10 (by decide) rfl ?_
  refine g_iand C (pc' := 14) d6_13 rfl rfl ?_
  rw [show ((5 : Int32) &&& (16383 : Int32)) = (5 : Int32) from by decide]
  refine g_iaload C (pc' := 15) (x := x5) d6_14 rfl A2 (by decide) (by decide) rfl rfl ?_
  exact g_ireturn C d6_15 rfl (Nat.le_of_ble_eq_true rfl) (Nat.le_of_ble_eq_true rfl) (⟨rfl, rfl⟩)
set_option maxRecDepth 65536 in
set_option maxHeartbeats 40000000 in
theorem il_get9_6 (l : Launch) (Z : State) (a0 : Array Value) (hw : ∀ d ∈ tables_1, d.before a0 Z = true) (n0 : Nat) (h : Heap) (O : Old Z n0 h)  (a bl d : Addr) (kB kD : ClassId) (x0 x1 x2 x3 x4 x5 x6 x7 x8 x9 x10 x11 x12 x13 x14 x15 : Int32) (P : IL Z n0 h a bl d kB kD (9 : Int32) (16 : Int32) [(.int x0), (.int x1), (.int x2), (.int x3), (.int x4), (.int x5), (.int x6), (.int x7), (.int x8), (.int x9), (.int x10), (.int x11), (.int x12), (.int x13), (.int x14), (.int x15)]) : Con l Z (⟨"com/example/ratatoskr/ratatoskr/index/IntList", "get", "(I)I"⟩ : MethodName) prog_10_method_3_code 2 (some .int) ({ frames := 0, cells := 0, slots := 0, locals := 0 } : Room) #[(.ref a), (.int (6 : Int32))] h n0 (fun r h' => r = some (.int x6) ∧ h' = h) := by
  refine Con.mk (Ls := #[.val (.ref a), .val (.int (6 : Int32))]) (plainFor_of_name pn_0) (fun m => by first | (simp [entryFrame, mkF, argsToLocals, Value.category]; done) | rfl) (fun w C => ?_)
  replace C : Cx w l Z "com/example/ratatoskr/ratatoskr/index/IntList" prog_10_method_3_code 2 (some .int) "get" ({ frames := 0, cells := 0, slots := 0, locals := 0 } : Room) n0 := C
  obtain ⟨ga, gb, gd, nab, nad, nbd, Ov, E0, F1, F2, A1, A2⟩ := P
  refine g_aloadN C (pc' := 1) d6_0 rfl rfl rfl ?_
  refine g_getF C (pc' := 4) (wd hw 14 rfl) Via.refl d6_1 rfl F1 rfl ?_
  refine g_iloadN C (pc' := 5) d6_4 rfl rfl ?_
  refine g_bipush C (pc' := 7) (v := (14 : Int32)) d6_5 (by decide) rfl ?_
  refine g_iushr C (pc' := 8) d6_7 rfl rfl ?_
  rw [show (((6 : Int32).toUInt32 >>> ((14 : Int32) &&& 31).toUInt32).toInt32) = (0 : Int32) from by decide]
  refine g_aaload C (pc' := 9) (x := (.ref d)) d6_8 rfl A1 rfl (by decide) (by decide) rfl rfl ?_
  refine g_iloadN C (pc' := 10) d6_9 rfl rfl ?_
  refine g_sipush C (pc' := 13) (v := (16383 : Int32)) d6_10 (by decide) rfl ?_
  refine g_iand C (pc' := 14) d6_13 rfl rfl ?_
  rw [show ((6 : Int32) &&& (16383 : Int32)) = (6 : Int32) from by decide]
  refine g_iaload C (pc' := 15) (x := x6) d6_14 rfl A2 (by decide) (by decide) rfl rfl ?_
  exact g_ireturn C d6_15 rfl (Nat.le_of_ble_eq_true rfl) (Nat.le_of_ble_eq_true rfl) (⟨rfl, rfl⟩)
set_option maxRecDepth 65536 in
set_option maxHeartbeats 40000000 in
theorem il_get9_7 (l : Launch) (Z : State) (a0 : Array Value) (hw : ∀ d ∈ tables_1, d.before a0 Z = true) (n0 : Nat) (h : Heap) (O : Old Z n0 h)  (a bl d : Addr) (kB kD : ClassId) (x0 x1 x2 x3 x4 x5 x6 x7 x8 x9 x10 x11 x12 x13 x14 x15 : Int32) (P : IL Z n0 h a bl d kB kD (9 : Int32) (16 : Int32) [(.int x0), (.int x1), (.int x2), (.int x3), (.int x4), (.int x5), (.int x6), (.int x7), (.int x8), (.int x9), (.int x10), (.int x11), (.int x12), (.int x13), (.int x14), (.int x15)]) : Con l Z (⟨"com/example/ratatoskr/ratatoskr/index/IntList", "get", "(I)I"⟩ : MethodName) prog_10_method_3_code 2 (some .int) ({ frames := 0, cells := 0, slots := 0, locals := 0 } : Room) #[(.ref a), (.int (7 : Int32))] h n0 (fun r h' => r = some (.int x7) ∧ h' = h) := by
  refine Con.mk (Ls := #[.val (.ref a), .val (.int (7 : Int32))]) (plainFor_of_name pn_0) (fun m => by first | (simp [entryFrame, mkF, argsToLocals, Value.category]; done) | rfl) (fun w C => ?_)
  replace C : Cx w l Z "com/example/ratatoskr/ratatoskr/index/IntList" prog_10_method_3_code 2 (some .int) "get" ({ frames := 0, cells := 0, slots := 0, locals := 0 } : Room) n0 := C
  obtain ⟨ga, gb, gd, nab, nad, nbd, Ov, E0, F1, F2, A1, A2⟩ := P
  refine g_aloadN C (pc' := 1) d6_0 rfl rfl rfl ?_
  refine g_getF C (pc' := 4) (wd hw 14 rfl) Via.refl d6_1 rfl F1 rfl ?_
  refine g_iloadN C (pc' := 5) d6_4 rfl rfl ?_
  refine g_bipush C (pc' := 7) (v := (14 : Int32)) d6_5 (by decide) rfl ?_
  refine g_iushr C (pc' := 8) d6_7 rfl rfl ?_
  rw [show (((7 : Int32).toUInt32 >>> ((14 : Int32) &&& 31).toUInt32).toInt32) = (0 : Int32) from by decide]
  refine g_aaload C (pc' := 9) (x := (.ref d)) d6_8 rfl A1 rfl (by decide) (by decide) rfl rfl ?_
  refine g_iloadN C (pc' := 10) d6_9 rfl rfl ?_
  refine g_sipush C (pc' := 13) (v := (16383 : Int32)) d6_10 (by decide) rfl ?_
  refine g_iand C (pc' := 14) d6_13 rfl rfl ?_
  rw [show ((7 : Int32) &&& (16383 : Int32)) = (7 : Int32) from by decide]
  refine g_iaload C (pc' := 15) (x := x7) d6_14 rfl A2 (by decide) (by decide) rfl rfl ?_
  exact g_ireturn C d6_15 rfl (Nat.le_of_ble_eq_true rfl) (Nat.le_of_ble_eq_true rfl) (⟨rfl, rfl⟩)
set_option maxRecDepth 65536 in
set_option maxHeartbeats 40000000 in
theorem il_get9_8 (l : Launch) (Z : State) (a0 : Array Value) (hw : ∀ d ∈ tables_1, d.before a0 Z = true) (n0 : Nat) (h : Heap) (O : Old Z n0 h)  (a bl d : Addr) (kB kD : ClassId) (x0 x1 x2 x3 x4 x5 x6 x7 x8 x9 x10 x11 x12 x13 x14 x15 : Int32) (P : IL Z n0 h a bl d kB kD (9 : Int32) (16 : Int32) [(.int x0), (.int x1), (.int x2), (.int x3), (.int x4), (.int x5), (.int x6), (.int x7), (.int x8), (.int x9), (.int x10), (.int x11), (.int x12), (.int x13), (.int x14), (.int x15)]) : Con l Z (⟨"com/example/ratatoskr/ratatoskr/index/IntList", "get", "(I)I"⟩ : MethodName) prog_10_method_3_code 2 (some .int) ({ frames := 0, cells := 0, slots := 0, locals := 0 } : Room) #[(.ref a), (.int (8 : Int32))] h n0 (fun r h' => r = some (.int x8) ∧ h' = h) := by
  refine Con.mk (Ls := #[.val (.ref a), .val (.int (8 : Int32))]) (plainFor_of_name pn_0) (fun m => by first | (simp [entryFrame, mkF, argsToLocals, Value.category]; done) | rfl) (fun w C => ?_)
  replace C : Cx w l Z "com/example/ratatoskr/ratatoskr/index/IntList" prog_10_method_3_code 2 (some .int) "get" ({ frames := 0, cells := 0, slots := 0, locals := 0 } : Room) n0 := C
  obtain ⟨ga, gb, gd, nab, nad, nbd, Ov, E0, F1, F2, A1, A2⟩ := P
  refine g_aloadN C (pc' := 1) d6_0 rfl rfl rfl ?_
  refine g_getF C (pc' := 4) (wd hw 14 rfl) Via.refl d6_1 rfl F1 rfl ?_
  refine g_iloadN C (pc' := 5) d6_4 rfl rfl ?_
  refine g_bipush C (pc' := 7) (v := (14 : Int32)) d6_5 (by decide) rfl ?_
  refine g_iushr C (pc' := 8) d6_7 rfl rfl ?_
  rw [show (((8 : Int32).toUInt32 >>> ((14 : Int32) &&& 31).toUInt32).toInt32) = (0 : Int32) from by decide]
  refine g_aaload C (pc' := 9) (x := (.ref d)) d6_8 rfl A1 rfl (by decide) (by decide) rfl rfl ?_
  refine g_iloadN C (pc' := 10) d6_9 rfl rfl ?_
  refine g_sipush C (pc' := 13) (v := (16383 : Int32)) d6_10 (by decide) rfl ?_
  refine g_iand C (pc' := 14) d6_13 rfl rfl ?_
  rw [show ((8 : Int32) &&& (16383 : Int32)) = (8 : Int32) from by decide]
  refine g_iaload C (pc' := 15) (x := x8) d6_14 rfl A2 (by decide) (by decide) rfl rfl ?_
  exact g_ireturn C d6_15 rfl (Nat.le_of_ble_eq_true rfl) (Nat.le_of_ble_eq_true rfl) (⟨rfl, rfl⟩)
theorem d5_0 : decode jdk_29_method_69_code 0 = .ok (.iload_n 0, 1) := by decide +kernel
theorem d5_1 : decode jdk_29_method_69_code 1 = .ok (.iload_n 1, 1) := by decide +kernel
theorem d5_2 : decode jdk_29_method_69_code 2 = .ok (.if_icmp .gt 7, 3) := by decide +kernel
theorem d5_5 : decode jdk_29_method_69_code 5 = .ok (.iload_n 0, 1) := by decide +kernel
theorem d5_6 : decode jdk_29_method_69_code 6 = .ok (.goto 4, 3) := by decide +kernel
theorem d5_10 : decode jdk_29_method_69_code 10 = .ok (.ireturn, 1) := by decide +kernel
set_option maxRecDepth 65536 in
set_option maxHeartbeats 40000000 in
theorem min_8_16 (l : Launch) (Z : State) (a0 : Array Value) (hw : ∀ d ∈ tables_1, d.before a0 Z = true) (n0 : Nat) (h : Heap) (O : Old Z n0 h)  : Con l Z (⟨"java/lang/Math", "min", "(II)I"⟩ : MethodName) jdk_29_method_69_code 2 (some .int) ({ frames := 0, cells := 0, slots := 0, locals := 0 } : Room) #[(.int (8 : Int32)), (.int (16 : Int32))] h n0 (fun r h' => r = some (.int (8 : Int32)) ∧ h' = h) := by
  refine Con.mk (Ls := #[.val (.int (8 : Int32)), .val (.int (16 : Int32))]) (Jvm.Free.JP.mathPlain rfl (by decide +kernel)) (fun m => by first | (simp [entryFrame, mkF, argsToLocals, Value.category]; done) | rfl) (fun w C => ?_)
  replace C : Cx w l Z "java/lang/Math" jdk_29_method_69_code 2 (some .int) "min" ({ frames := 0, cells := 0, slots := 0, locals := 0 } : Room) n0 := C
  refine g_iloadN C (pc' := 1) d5_0 rfl rfl ?_
  refine g_iloadN C (pc' := 2) d5_1 rfl rfl ?_
  refine g_icN C (pc' := 5) d5_2 rfl (by decide) rfl ?_
  refine g_iloadN C (pc' := 6) d5_5 rfl rfl ?_
  refine g_goto C (pc' := 10) d5_6 (by decide) rfl ?_
  exact g_ireturn C d5_10 rfl (Nat.le_of_ble_eq_true rfl) (Nat.le_of_ble_eq_true rfl) (⟨rfl, rfl⟩)
theorem d4_0 : decode jdk_65_method_123_code 0 = .ok (.iload_n 1, 1) := by decide +kernel
theorem d4_1 : decode jdk_65_method_123_code 1 = .ok (.aload_n 0, 1) := by decide +kernel
theorem d4_2 : decode jdk_65_method_123_code 2 = .ok (.arraylength, 1) := by decide +kernel
theorem d4_3 : decode jdk_65_method_123_code 3 = .ok (.if_icmp .ne 11, 3) := by decide +kernel
theorem d4_14 : decode jdk_65_method_123_code 14 = .ok (.iload_n 1, 1) := by decide +kernel
theorem d4_15 : decode jdk_65_method_123_code 15 = .ok (.newarray .int, 2) := by decide +kernel
theorem d4_17 : decode jdk_65_method_123_code 17 = .ok (.astore_n 2, 1) := by decide +kernel
theorem d4_18 : decode jdk_65_method_123_code 18 = .ok (.aload_n 0, 1) := by decide +kernel
theorem d4_19 : decode jdk_65_method_123_code 19 = .ok (.iconst 0, 1) := by decide +kernel
theorem d4_20 : decode jdk_65_method_123_code 20 = .ok (.aload_n 2, 1) := by decide +kernel
theorem d4_21 : decode jdk_65_method_123_code 21 = .ok (.iconst 0, 1) := by decide +kernel
theorem d4_22 : decode jdk_65_method_123_code 22 = .ok (.aload_n 0, 1) := by decide +kernel
theorem d4_23 : decode jdk_65_method_123_code 23 = .ok (.arraylength, 1) := by decide +kernel
theorem d4_24 : decode jdk_65_method_123_code 24 = .ok (.iload_n 1, 1) := by decide +kernel
theorem d4_25 : decode jdk_65_method_123_code 25 = .ok (.invokestatic 304, 3) := by decide +kernel
theorem pd_3 : parseMethodDescriptor "(II)I" = some ⟨[.int, .int], some .int⟩ := by decide +kernel
theorem d4_28 : decode jdk_65_method_123_code 28 = .ok (.invokestatic 150, 3) := by decide +kernel
theorem d4_31 : decode jdk_65_method_123_code 31 = .ok (.aload_n 2, 1) := by decide +kernel
theorem d4_32 : decode jdk_65_method_123_code 32 = .ok (.areturn, 1) := by decide +kernel
theorem pn_4 : plainName "java/util/Arrays" = true := by first | (simp [plainName, overriddenIn]; done) | decide +kernel
set_option maxRecDepth 65536 in
set_option maxHeartbeats 40000000 in
theorem copy16 (l : Launch) (Z : State) (a0 : Array Value) (hw : ∀ d ∈ tables_1, d.before a0 Z = true) (n0 : Nat) (h : Heap) (O : Old Z n0 h)  (d : Addr) (kD : ClassId) (x0 x1 x2 x3 x4 x5 x6 x7 : Int32) (A2 : Arv Z h d kD .int (8 : Int32) [(.int x0), (.int x1), (.int x2), (.int x3), (.int x4), (.int x5), (.int x6), (.int x7)] (.int (0 : Int32))) : Con l Z (⟨"java/util/Arrays", "copyOf", "([II)[I"⟩ : MethodName) jdk_65_method_123_code 3 (some (.array .int)) ({ frames := 1, cells := 1, slots := 16, locals := 18 } : Room) #[(.ref d), (.int (16 : Int32))] h n0 (fun r h' => ∃ d' kD', r = some (.ref d') ∧ h.size ≤ d' ∧ Keep h h' [] ∧ Exa Z h' d' "[I" ∧ Arv Z h' d' kD' .int (16 : Int32) [(.int x0), (.int x1), (.int x2), (.int x3), (.int x4), (.int x5), (.int x6), (.int x7), (.int (0 : Int32)), (.int (0 : Int32)), (.int (0 : Int32)), (.int (0 : Int32)), (.int (0 : Int32)), (.int (0 : Int32)), (.int (0 : Int32)), (.int (0 : Int32))] (.int (0 : Int32))) := by
  refine Con.mk (Ls := #[.val (.ref d), .val (.int (16 : Int32)), .unset]) (plainFor_of_name pn_4) (fun m => by first | (simp [entryFrame, mkF, argsToLocals, Value.category]; done) | rfl) (fun w C => ?_)
  replace C : Cx w l Z "java/util/Arrays" jdk_65_method_123_code 3 (some (.array .int)) "copyOf" ({ frames := 1, cells := 1, slots := 16, locals := 18 } : Room) n0 := C
  refine g_iloadN C (pc' := 1) d4_0 rfl rfl ?_
  refine g_aloadN C (pc' := 2) d4_1 rfl rfl rfl ?_
  refine g_alen C (pc' := 3) d4_2 rfl A2 rfl ?_
  refine g_icY C (pc' := 14) d4_3 rfl (by decide) (by decide) rfl ?_
  refine g_iloadN C (pc' := 15) d4_14 rfl rfl ?_
  refine g_newPE C (pc' := 17) (k' := 1) (n' := 16) (cap := 16) (ad := "[I") (wd hw 0 rfl) (by decide) d4_15 rfl (by decide) (by decide) (by decide) (by decide) (by decide) rfl rfl rfl (fun h196 b197 kA198 ex199 E200 A201 B202 => ?_)
  have ne_d_b197 : d ≠ b197 := Nat.ne_of_lt (by rw [ex199]; exact A2.lt)
  have ge_b197 : n0 ≤ b197 := by rw [ex199]; exact O.1 ▸ O.2.1
  have sz_b197 : h.size ≤ b197 := by rw [ex199]; exact (Keep.refl h []).1
  have f203 := O.ext E200
  have f204 := A2.ext E200
  have f205 := (Keep.refl h []).ext E200
  have A206 : Arv Z h196 b197 kA198 .int (16 : Int32) [(.int (0 : Int32)), (.int (0 : Int32)), (.int (0 : Int32)), (.int (0 : Int32)), (.int (0 : Int32)), (.int (0 : Int32)), (.int (0 : Int32)), (.int (0 : Int32)), (.int (0 : Int32)), (.int (0 : Int32)), (.int (0 : Int32)), (.int (0 : Int32)), (.int (0 : Int32)), (.int (0 : Int32)), (.int (0 : Int32)), (.int (0 : Int32))] (.int (0 : Int32)) := A201.pad (pad_rep [] (.int (0 : Int32)) 16)
  refine g_astoreN C (pc' := 18) (Ls' := #[.val (.ref d), .val (.int (16 : Int32)), .val (.ref b197)]) d4_17 rfl rfl rfl rfl ?_
  refine g_aloadN C (pc' := 19) d4_18 rfl rfl rfl ?_
  refine g_iconst C (pc' := 20) (v := (0 : Int32)) d4_19 (by decide) rfl ?_
  refine g_aloadN C (pc' := 21) d4_20 rfl rfl rfl ?_
  refine g_iconst C (pc' := 22) (v := (0 : Int32)) d4_21 (by decide) rfl ?_
  refine g_aloadN C (pc' := 23) d4_22 rfl rfl rfl ?_
  refine g_alen C (pc' := 24) d4_23 rfl f204 rfl ?_
  refine g_iloadN C (pc' := 25) d4_24 rfl rfl ?_
  refine g_callS C (pc' := 28) (k' := 1) (n' := 16) (argsL := [(.int (8 : Int32)), (.int (16 : Int32))]) (rest := [(.int (0 : Int32)), (.ref b197), (.int (0 : Int32)), (.ref d)]) (wd hw 27 rfl) (wd hw 28 rfl) (wd hw 29 rfl) (wd hw 30 rfl) (by decide) d4_25 pd_3 rfl rfl rfl (min_8_16 l Z a0 hw n0 h196 f203) (Nat.le_of_ble_eq_true rfl) (Nat.le_of_ble_eq_true rfl) (Nat.le_of_ble_eq_true rfl) (Nat.le_of_ble_eq_true rfl) rfl rfl rfl (fun v208 h207 q209 => ?_)
  obtain ⟨rfl, eh207⟩ := q209
  subst h207
  show G w _ h196 1 16 28 #[.val (.ref d), .val (.int (16 : Int32)), .val (.ref b197)] [(.int (8 : Int32)), (.int (0 : Int32)), (.ref b197), (.int (0 : Int32)), (.ref d)]
  refine g_cpA C (pc' := 31) (us := [(.int x0), (.int x1), (.int x2), (.int x3), (.int x4), (.int x5), (.int x6), (.int x7)]) (wd hw 31 rfl) (wd hw 34 rfl) (wd hw 32 rfl) (wd hw 33 rfl) d4_28 rfl rfl f204 A206 (Or.inl ⟨rfl, rfl⟩) (by decide) (by decide) (by decide) (Nat.le_of_ble_eq_true rfl) (Nat.le_of_ble_eq_true rfl) rfl (Nat.le_of_ble_eq_true rfl) ge_b197 (Nat.le_of_ble_eq_true rfl) (Nat.le_of_ble_eq_true rfl) rfl (fun h210 K211 A212 => ?_)
  have f213 := f203.keep K211 (allS ge_b197 all0)
  have f214 := f204.keep K211 (ninS ne_d_b197 nin0)
  have f215 := f205.trans K211 (allS (Or.inr sz_b197) all0)
  have f216 := B202.keep K211
  have A217 : Arv Z h210 b197 kA198 .int (16 : Int32) [(.int x0), (.int x1), (.int x2), (.int x3), (.int x4), (.int x5), (.int x6), (.int x7), (.int (0 : Int32)), (.int (0 : Int32)), (.int (0 : Int32)), (.int (0 : Int32)), (.int (0 : Int32)), (.int (0 : Int32)), (.int (0 : Int32)), (.int (0 : Int32))] (.int (0 : Int32)) := A212
  refine g_aloadN C (pc' := 32) d4_31 rfl rfl rfl ?_
  exact g_areturn C d4_32 rfl rfl rfl rfl (Nat.le_of_ble_eq_true rfl) (Nat.le_of_ble_eq_true rfl) (⟨b197, kA198, rfl, sz_b197, f215, f216, A217⟩)
theorem d3_32 : decode prog_10_method_2_code 32 = .ok (.aload_n 0, 1) := by decide +kernel
theorem d3_33 : decode prog_10_method_2_code 33 = .ok (.getfield 11, 3) := by decide +kernel
theorem d3_36 : decode prog_10_method_2_code 36 = .ok (.iconst 0, 1) := by decide +kernel
theorem d3_37 : decode prog_10_method_2_code 37 = .ok (.aload_n 0, 1) := by decide +kernel
theorem d3_38 : decode prog_10_method_2_code 38 = .ok (.getfield 11, 3) := by decide +kernel
theorem d3_41 : decode prog_10_method_2_code 41 = .ok (.iconst 0, 1) := by decide +kernel
theorem d3_42 : decode prog_10_method_2_code 42 = .ok (.aaload, 1) := by decide +kernel
theorem d3_43 : decode prog_10_method_2_code 43 = .ok (.iload_n 3, 1) := by decide +kernel
theorem d3_44 : decode prog_10_method_2_code 44 = .ok (.iconst 2, 1) := by decide +kernel
theorem d3_45 : decode prog_10_method_2_code 45 = .ok (.imul, 1) := by decide +kernel
theorem d3_46 : decode prog_10_method_2_code 46 = .ok (.invokestatic 19, 3) := by decide +kernel
theorem pd_2 : parseMethodDescriptor "([II)[I" = some ⟨[(.array .int), .int], some (.array .int)⟩ := by decide +kernel
theorem d3_49 : decode prog_10_method_2_code 49 = .ok (.aastore, 1) := by decide +kernel
theorem d3_50 : decode prog_10_method_2_code 50 = .ok (.goto 63, 3) := by decide +kernel
set_option maxRecDepth 65536 in
set_option maxHeartbeats 40000000 in
theorem il_add8 (l : Launch) (Z : State) (a0 : Array Value) (hw : ∀ d ∈ tables_1, d.before a0 Z = true) (n0 : Nat) (h : Heap) (O : Old Z n0 h)  (a bl d : Addr) (kB kD : ClassId) (x0 x1 x2 x3 x4 x5 x6 x7 : Int32) (v : Int32) (P : IL Z n0 h a bl d kB kD (8 : Int32) (8 : Int32) [(.int x0), (.int x1), (.int x2), (.int x3), (.int x4), (.int x5), (.int x6), (.int x7)]) : Con l Z (⟨"com/example/ratatoskr/ratatoskr/index/IntList", "add", "(I)V"⟩ : MethodName) prog_10_method_2_code 4 none ({ frames := 2, cells := 1, slots := 16, locals := 34 } : Room) #[(.ref a), (.int v)] h n0 (fun r h' => r = none ∧ Keep h h' [a, bl, d] ∧ ∃ d' kD', h.size ≤ d' ∧ IL Z n0 h' a bl d' kB kD' (9 : Int32) (16 : Int32) [(.int x0), (.int x1), (.int x2), (.int x3), (.int x4), (.int x5), (.int x6), (.int x7), (.int v), (.int (0 : Int32)), (.int (0 : Int32)), (.int (0 : Int32)), (.int (0 : Int32)), (.int (0 : Int32)), (.int (0 : Int32)), (.int (0 : Int32))]) := by
  refine Con.mk (Ls := #[.val (.ref a), .val (.int v), .unset, .unset]) (plainFor_of_name pn_0) (fun m => by first | (simp [entryFrame, mkF, argsToLocals, Value.category]; done) | rfl) (fun w C => ?_)
  replace C : Cx w l Z "com/example/ratatoskr/ratatoskr/index/IntList" prog_10_method_2_code 4 none "add" ({ frames := 2, cells := 1, slots := 16, locals := 34 } : Room) n0 := C
  obtain ⟨ga, gb, gd, nab, nad, nbd, Ov, E0, F1, F2, A1, A2⟩ := P
  refine g_aloadN C (pc' := 1) d3_0 rfl rfl rfl ?_
  refine g_getF C (pc' := 4) (wd hw 21 rfl) Via.refl d3_1 rfl F2 rfl ?_
  refine g_bipush C (pc' := 6) (v := (14 : Int32)) d3_4 (by decide) rfl ?_
  refine g_iushr C (pc' := 7) d3_6 rfl rfl ?_
  rw [show (((8 : Int32).toUInt32 >>> ((14 : Int32) &&& 31).toUInt32).toInt32) = (0 : Int32) from by decide]
  refine g_istoreN C (pc' := 8) (Ls' := #[.val (.ref a), .val (.int v), .val (.int (0 : Int32)), .unset]) d3_7 rfl rfl rfl ?_
  refine g_aloadN C (pc' := 9) d3_8 rfl rfl rfl ?_
  refine g_getF C (pc' := 12) (wd hw 21 rfl) Via.refl d3_9 rfl F2 rfl ?_
  refine g_sipush C (pc' := 15) (v := (16383 : Int32)) d3_12 (by decide) rfl ?_
  refine g_iand C (pc' := 16) d3_15 rfl rfl ?_
  rw [show ((8 : Int32) &&& (16383 : Int32)) = (8 : Int32) from by decide]
  refine g_istoreN C (pc' := 17) (Ls' := #[.val (.ref a), .val (.int v), .val (.int (0 : Int32)), .val (.int (8 : Int32))]) d3_16 rfl rfl rfl ?_
  refine g_iloadN C (pc' := 18) d3_17 rfl rfl ?_
  refine g_ifN C (pc' := 21) d3_18 rfl (by decide) rfl ?_
  refine g_iloadN C (pc' := 22) d3_21 rfl rfl ?_
  refine g_aloadN C (pc' := 23) d3_22 rfl rfl rfl ?_
  refine g_getF C (pc' := 26) (wd hw 14 rfl) Via.refl d3_23 rfl F1 rfl ?_
  refine g_iconst C (pc' := 27) (v := (0 : Int32)) d3_26 (by decide) rfl ?_
  refine g_aaload C (pc' := 28) (x := (.ref d)) d3_27 rfl A1 rfl (by decide) (by decide) rfl rfl ?_
  refine g_alen C (pc' := 29) d3_28 rfl A2 rfl ?_
  refine g_icN C (pc' := 32) d3_29 rfl (by decide) rfl ?_
  refine g_aloadN C (pc' := 33) d3_32 rfl rfl rfl ?_
  refine g_getF C (pc' := 36) (wd hw 14 rfl) Via.refl d3_33 rfl F1 rfl ?_
  refine g_iconst C (pc' := 37) (v := (0 : Int32)) d3_36 (by decide) rfl ?_
  refine g_aloadN C (pc' := 38) d3_37 rfl rfl rfl ?_
  refine g_getF C (pc' := 41) (wd hw 14 rfl) Via.refl d3_38 rfl F1 rfl ?_
  refine g_iconst C (pc' := 42) (v := (0 : Int32)) d3_41 (by decide) rfl ?_
  refine g_aaload C (pc' := 43) (x := (.ref d)) d3_42 rfl A1 rfl (by decide) (by decide) rfl rfl ?_
  refine g_iloadN C (pc' := 44) d3_43 rfl rfl ?_
  refine g_iconst C (pc' := 45) (v := (2 : Int32)) d3_44 (by decide) rfl ?_
  refine g_imul C (pc' := 46) d3_45 rfl rfl ?_
  rw [show ((8 : Int32) * (2 : Int32)) = (16 : Int32) from by decide]
  refine g_callS C (pc' := 49) (k' := 1) (n' := 16) (argsL := [(.ref d), (.int (16 : Int32))]) (rest := [(.int (0 : Int32)), (.ref bl)]) (wd hw 23 rfl) (wd hw 24 rfl) (wd hw 25 rfl) (wd hw 26 rfl) (by decide) d3_46 pd_2 rfl rfl rfl (copy16 l Z a0 hw n0 h O d kD x0 x1 x2 x3 x4 x5 x6 x7 A2) (Nat.le_of_ble_eq_true rfl) (Nat.le_of_ble_eq_true rfl) (Nat.le_of_ble_eq_true rfl) (Nat.le_of_ble_eq_true rfl) rfl rfl rfl (fun v219 h218 q220 => ?_)
  obtain ⟨dn, kDn, rfl, hdn, Kd, Edn, Adn⟩ := q220
  have ne_a_dn : a ≠ dn := Nat.ne_of_lt (Nat.lt_of_lt_of_le E0.lt hdn)
  have ne_bl_dn : bl ≠ dn := Nat.ne_of_lt (Nat.lt_of_lt_of_le A1.lt hdn)
  have ne_d_dn : d ≠ dn := Nat.ne_of_lt (Nat.lt_of_lt_of_le A2.lt hdn)
  have ge_dn : n0 ≤ dn := Nat.le_trans (O.1 ▸ O.2.1) hdn
  have sz_dn : h.size ≤ dn := Nat.le_trans (Keep.refl h [a, bl, d]).1 hdn
  have f221 := O.keep Kd all0
  have f222 := E0.keep Kd
  have f223 := F1.keep Kd nin0
  have f224 := F2.keep Kd nin0
  have f225 := A1.keep Kd nin0
  have f226 := A2.keep Kd nin0
  have f227 := (Keep.refl h [a, bl, d]).trans Kd all0
  show G w _ h218 1 16 49 #[.val (.ref a), .val (.int v), .val (.int (0 : Int32)), .val (.int (8 : Int32))] [(.ref dn), (.int (0 : Int32)), (.ref bl)]
  refine g_aastore C (pc' := 50) d3_49 rfl f225 rfl (stoA f225 Ov Edn) (by decide) (by decide) gb rfl (fun h228 W229 => ?_)
  have f230 := f221.wr W229 gb
  have f231 := f222.wr W229
  have f232 := f223.other W229 (Or.inl nab)
  have f233 := f224.other W229 (Or.inl nab)
  have f234 := (arv_put f225 rfl W229 (i := 0) rfl (Nat.le_of_ble_eq_true rfl) : Arv Z h228 bl kB (.array .int) (1 : Int32) [(.ref dn)] .null)
  have f235 := f226.other W229 (Ne.symm nbd)
  have f236 := f227.wr W229 (Or.inl (List.mem_of_getElem? (i := 1) rfl))
  have f237 := Edn.wr W229
  have f238 := Adn.other W229 (Ne.symm ne_bl_dn)
  refine g_goto C (pc' := 113) d3_50 (by decide) rfl ?_
  refine g_aloadN C (pc' := 114) d3_113 rfl rfl rfl ?_
  refine g_getF C (pc' := 117) (wd hw 14 rfl) Via.refl d3_114 rfl f232 rfl ?_
  refine g_iloadN C (pc' := 118) d3_117 rfl rfl ?_
  refine g_aaload C (pc' := 119) (x := (.ref dn)) d3_118 rfl f234 rfl (by decide) (by decide) rfl rfl ?_
  refine g_iloadN C (pc' := 120) d3_119 rfl rfl ?_
  refine g_iloadN C (pc' := 121) d3_120 rfl rfl ?_
  refine g_iastore C (pc' := 122) d3_121 rfl f238 (by decide) (by decide) ge_dn rfl (fun h239 W240 => ?_)
  have f241 := f230.wr W240 ge_dn
  have f242 := f231.wr W240
  have f243 := f232.other W240 (Or.inl ne_a_dn)
  have f244 := f233.other W240 (Or.inl ne_a_dn)
  have f245 := f234.other W240 ne_bl_dn
  have f246 := f235.other W240 ne_d_dn
  have f247 := f236.wr W240 (Or.inr sz_dn)
  have f248 := f237.wr W240
  have f249 := (arv_put f238 rfl W240 (i := 8) rfl (Nat.le_of_ble_eq_true rfl) : Arv Z h239 dn kDn .int (16 : Int32) [(.int x0), (.int x1), (.int x2), (.int x3), (.int x4), (.int x5), (.int x6), (.int x7), (.int v), (.int (0 : Int32)), (.int (0 : Int32)), (.int (0 : Int32)), (.int (0 : Int32)), (.int (0 : Int32)), (.int (0 : Int32)), (.int (0 : Int32))] (.int (0 : Int32)))
  refine g_aloadN C (pc' := 123) d3_122 rfl rfl rfl ?_
  refine g_dup C (pc' := 124) d3_123 rfl rfl rfl ?_
  refine g_getF C (pc' := 127) (wd hw 21 rfl) Via.refl d3_124 rfl f244 rfl ?_
  refine g_iconst C (pc' := 128) (v := (1 : Int32)) d3_127 (by decide) rfl ?_
  refine g_iadd C (pc' := 129) d3_128 rfl rfl ?_
  rw [show ((8 : Int32) + (1 : Int32)) = (9 : Int32) from by decide]
  refine g_putF C (pc' := 132) (ty := .int) (wd hw 21 rfl) Via.refl d3_129 rfl f244 f242 (Or.inl (wd hw 22 rfl)) (wd hw 3 rfl) (by decide) rfl rfl ga rfl (fun h250 W251 => ?_)
  have f252 := f241.wr W251 ga
  have f253 := f242.wr W251
  have f254 := f243.other W251 (Or.inr (slot_ne (Or.inl (wd hw 15 rfl)) (Or.inl (wd hw 22 rfl)) (by decide) (t := (.array (.array .int))) (t' := .int) (by decide) (by decide)))
  have f255 := f244.same W251
  have f256 := f245.other W251 (Ne.symm nab)
  have f257 := f246.other W251 (Ne.symm nad)
  have f258 := f247.wr W251 (Or.inl (List.mem_of_getElem? (i := 0) rfl))
  have f259 := f248.wr W251
  have f260 := f249.other W251 (Ne.symm ne_a_dn)
  exact g_return C d3_132 rfl (Nat.le_of_ble_eq_true rfl) (Nat.le_of_ble_eq_true rfl) (⟨rfl, f258, dn, kDn, sz_dn, ⟨ga, gb, ge_dn, nab, ne_a_dn, ne_bl_dn, Ov, f253, f254, f255, f256, f260⟩⟩)
def LQ : Option Value → Heap → Prop := fun v _ => v = some (.int (1 : Int32))
theorem pd_0 : parseMethodDescriptor "()V" = some ⟨[], none⟩ := by decide +kernel
theorem pd_1 : parseMethodDescriptor "(I)V" = some ⟨[.int], none⟩ := by decide +kernel
theorem pd_5 : parseMethodDescriptor "(I)I" = some ⟨[.int], some .int⟩ := by decide +kernel
theorem pn_1 : plainName "com/example/ratatoskr/ratatoskr/index/IntListGetPinLaw" = true := by first | (simp [plainName, overriddenIn]; done) | decide +kernel
set_option maxRecDepth 65536 in
set_option maxHeartbeats 40000000 in
theorem rm0 (l : Launch) (Z : State) (a0 : Array Value) (hw : ∀ d ∈ tables_1, d.before a0 Z = true) (n0 : Nat) (h : Heap) (O : Old Z n0 h)  (p0 : Int32) (p1 : Int32) (p2 : Int32) (p3 : Int32) (p4 : Int32) (p5 : Int32) : Con l Z x code maxLocals ret room_1 #[(.int p0), (.int p1), (.int p2), (.int p3), (.int p4), (.int p5)] h n0 (LQ) := by
  refine Con.mk (Ls := #[.val (.int p0), .val (.int p1), .val (.int p2), .val (.int p3), .val (.int p4), .val (.int p5), .unset, .unset, .unset]) (plainFor_of_name pn_1) (fun m => by first | (simp [entryFrame, mkF, argsToLocals, Value.category, maxLocals]; done) | rfl) (fun w C => ?_)
  replace C : Cx w l Z "com/example/ratatoskr/ratatoskr/index/IntListGetPinLaw" code 9 (some .boolean) "law" room_1 n0 := C
  refine g_bipush C (pc' := 2) (v := (9 : Int32)) at_0 (by decide) rfl ?_
  refine g_newP C (pc' := 4) (k' := 1) (n' := 9) (cap := 9) (wd hw 0 rfl) at_2 rfl (by decide) (by decide) (by decide) (by decide) (by decide) rfl rfl rfl (fun h261 b262 kA263 ex264 E265 A266 => ?_)
  have ge_b262 : n0 ≤ b262 := by rw [ex264]; exact O.1 ▸ O.2.1
  have f267 := O.ext E265
  have A268 : Arv Z h261 b262 kA263 .int (9 : Int32) [(.int (0 : Int32)), (.int (0 : Int32)), (.int (0 : Int32)), (.int (0 : Int32)), (.int (0 : Int32)), (.int (0 : Int32)), (.int (0 : Int32)), (.int (0 : Int32)), (.int (0 : Int32))] (.int (0 : Int32)) := A266.pad (pad_rep [] (.int (0 : Int32)) 9)
  refine g_astore C (pc' := 6) (Ls' := #[.val (.int p0), .val (.int p1), .val (.int p2), .val (.int p3), .val (.int p4), .val (.int p5), .val (.ref b262), .unset, .unset]) at_4 rfl rfl rfl rfl ?_
  refine g_aload C (pc' := 8) at_6 rfl rfl rfl ?_
  refine g_iconst C (pc' := 9) (v := (0 : Int32)) at_8 (by decide) rfl ?_
  refine g_iloadN C (pc' := 10) at_9 rfl rfl ?_
  refine g_iastore C (pc' := 11) at_10 rfl A268 (by decide) (by decide) ge_b262 rfl (fun h269 W270 => ?_)
  have f271 := f267.wr W270 ge_b262
  have f272 := (arv_put A268 rfl W270 (i := 0) rfl (Nat.le_of_ble_eq_true rfl) : Arv Z h269 b262 kA263 .int (9 : Int32) [(.int p0), (.int (0 : Int32)), (.int (0 : Int32)), (.int (0 : Int32)), (.int (0 : Int32)), (.int (0 : Int32)), (.int (0 : Int32)), (.int (0 : Int32)), (.int (0 : Int32))] (.int (0 : Int32)))
  refine g_aload C (pc' := 13) at_11 rfl rfl rfl ?_
  refine g_iconst C (pc' := 14) (v := (1 : Int32)) at_13 (by decide) rfl ?_
  refine g_iloadN C (pc' := 15) at_14 rfl rfl ?_
  refine g_iastore C (pc' := 16) at_15 rfl f272 (by decide) (by decide) ge_b262 rfl (fun h273 W274 => ?_)
  have f275 := f271.wr W274 ge_b262
  have f276 := (arv_put f272 rfl W274 (i := 1) rfl (Nat.le_of_ble_eq_true rfl) : Arv Z h273 b262 kA263 .int (9 : Int32) [(.int p0), (.int p1), (.int (0 : Int32)), (.int (0 : Int32)), (.int (0 : Int32)), (.int (0 : Int32)), (.int (0 : Int32)), (.int (0 : Int32)), (.int (0 : Int32))] (.int (0 : Int32)))
  refine g_aload C (pc' := 18) at_16 rfl rfl rfl ?_
  refine g_iconst C (pc' := 19) (v := (2 : Int32)) at_18 (by decide) rfl ?_
  refine g_iloadN C (pc' := 20) at_19 rfl rfl ?_
  refine g_iastore C (pc' := 21) at_20 rfl f276 (by decide) (by decide) ge_b262 rfl (fun h277 W278 => ?_)
  have f279 := f275.wr W278 ge_b262
  have f280 := (arv_put f276 rfl W278 (i := 2) rfl (Nat.le_of_ble_eq_true rfl) : Arv Z h277 b262 kA263 .int (9 : Int32) [(.int p0), (.int p1), (.int p2), (.int (0 : Int32)), (.int (0 : Int32)), (.int (0 : Int32)), (.int (0 : Int32)), (.int (0 : Int32)), (.int (0 : Int32))] (.int (0 : Int32)))
  refine g_aload C (pc' := 23) at_21 rfl rfl rfl ?_
  refine g_iconst C (pc' := 24) (v := (3 : Int32)) at_23 (by decide) rfl ?_
  refine g_iloadN C (pc' := 25) at_24 rfl rfl ?_
  refine g_iastore C (pc' := 26) at_25 rfl f280 (by decide) (by decide) ge_b262 rfl (fun h281 W282 => ?_)
  have f283 := f279.wr W282 ge_b262
  have f284 := (arv_put f280 rfl W282 (i := 3) rfl (Nat.le_of_ble_eq_true rfl) : Arv Z h281 b262 kA263 .int (9 : Int32) [(.int p0), (.int p1), (.int p2), (.int p3), (.int (0 : Int32)), (.int (0 : Int32)), (.int (0 : Int32)), (.int (0 : Int32)), (.int (0 : Int32))] (.int (0 : Int32)))
  refine g_aload C (pc' := 28) at_26 rfl rfl rfl ?_
  refine g_iconst C (pc' := 29) (v := (4 : Int32)) at_28 (by decide) rfl ?_
  refine g_iload C (pc' := 31) at_29 rfl rfl ?_
  refine g_iastore C (pc' := 32) at_31 rfl f284 (by decide) (by decide) ge_b262 rfl (fun h285 W286 => ?_)
  have f287 := f283.wr W286 ge_b262
  have f288 := (arv_put f284 rfl W286 (i := 4) rfl (Nat.le_of_ble_eq_true rfl) : Arv Z h285 b262 kA263 .int (9 : Int32) [(.int p0), (.int p1), (.int p2), (.int p3), (.int p4), (.int (0 : Int32)), (.int (0 : Int32)), (.int (0 : Int32)), (.int (0 : Int32))] (.int (0 : Int32)))
  refine g_aload C (pc' := 34) at_32 rfl rfl rfl ?_
  refine g_iconst C (pc' := 35) (v := (5 : Int32)) at_34 (by decide) rfl ?_
  refine g_iloadN C (pc' := 36) at_35 rfl rfl ?_
  refine g_iloadN C (pc' := 37) at_36 rfl rfl ?_
  refine g_ixor C (pc' := 38) at_37 rfl rfl ?_
  refine g_iastore C (pc' := 39) at_38 rfl f288 (by decide) (by decide) ge_b262 rfl (fun h289 W290 => ?_)
  have f291 := f287.wr W290 ge_b262
  have f292 := (arv_put f288 rfl W290 (i := 5) rfl (Nat.le_of_ble_eq_true rfl) : Arv Z h289 b262 kA263 .int (9 : Int32) [(.int p0), (.int p1), (.int p2), (.int p3), (.int p4), (.int (p0 ^^^ p1)), (.int (0 : Int32)), (.int (0 : Int32)), (.int (0 : Int32))] (.int (0 : Int32)))
  refine g_aload C (pc' := 41) at_39 rfl rfl rfl ?_
  refine g_bipush C (pc' := 43) (v := (6 : Int32)) at_41 (by decide) rfl ?_
  refine g_iloadN C (pc' := 44) at_43 rfl rfl ?_
  refine g_iconst C (pc' := 45) (v := (-1 : Int32)) at_44 (by decide) rfl ?_
  refine g_ixor C (pc' := 46) at_45 rfl rfl ?_
  refine g_iastore C (pc' := 47) at_46 rfl f292 (by decide) (by decide) ge_b262 rfl (fun h293 W294 => ?_)
  have f295 := f291.wr W294 ge_b262
  have f296 := (arv_put f292 rfl W294 (i := 6) rfl (Nat.le_of_ble_eq_true rfl) : Arv Z h293 b262 kA263 .int (9 : Int32) [(.int p0), (.int p1), (.int p2), (.int p3), (.int p4), (.int (p0 ^^^ p1)), (.int (p2 ^^^ (-1 : Int32))), (.int (0 : Int32)), (.int (0 : Int32))] (.int (0 : Int32)))
  refine g_aload C (pc' := 49) at_47 rfl rfl rfl ?_
  refine g_bipush C (pc' := 51) (v := (7 : Int32)) at_49 (by decide) rfl ?_
  refine g_iloadN C (pc' := 52) at_51 rfl rfl ?_
  refine g_iload C (pc' := 54) at_52 rfl rfl ?_
  refine g_iadd C (pc' := 55) at_54 rfl rfl ?_
  refine g_iastore C (pc' := 56) at_55 rfl f296 (by decide) (by decide) ge_b262 rfl (fun h297 W298 => ?_)
  have f299 := f295.wr W298 ge_b262
  have f300 := (arv_put f296 rfl W298 (i := 7) rfl (Nat.le_of_ble_eq_true rfl) : Arv Z h297 b262 kA263 .int (9 : Int32) [(.int p0), (.int p1), (.int p2), (.int p3), (.int p4), (.int (p0 ^^^ p1)), (.int (p2 ^^^ (-1 : Int32))), (.int (p3 + p4)), (.int (0 : Int32))] (.int (0 : Int32)))
  refine g_aload C (pc' := 58) at_56 rfl rfl rfl ?_
  refine g_bipush C (pc' := 60) (v := (8 : Int32)) at_58 (by decide) rfl ?_
  refine g_iloadN C (pc' := 61) at_60 rfl rfl ?_
  refine g_iloadN C (pc' := 62) at_61 rfl rfl ?_
  refine g_isub C (pc' := 63) at_62 rfl rfl ?_
  refine g_iastore C (pc' := 64) at_63 rfl f300 (by decide) (by decide) ge_b262 rfl (fun h301 W302 => ?_)
  have f303 := f299.wr W302 ge_b262
  have f304 := (arv_put f300 rfl W302 (i := 8) rfl (Nat.le_of_ble_eq_true rfl) : Arv Z h301 b262 kA263 .int (9 : Int32) [(.int p0), (.int p1), (.int p2), (.int p3), (.int p4), (.int (p0 ^^^ p1)), (.int (p2 ^^^ (-1 : Int32))), (.int (p3 + p4)), (.int (p1 - p0))] (.int (0 : Int32)))
  refine g_iload C (pc' := 66) at_64 rfl rfl ?_
  refine g_ldcInt C (pc' := 68) (wd hw 1 rfl) at_66 rfl ?_
  refine g_iand C (pc' := 69) at_68 rfl rfl ?_
  refine g_bipush C (pc' := 71) (v := (9 : Int32)) at_69 (by decide) rfl ?_
  refine g_irem C (pc' := 72) at_71 rfl (by decide) rfl ?_
  refine g_istore C (pc' := 74) (Ls' := #[.val (.int p0), .val (.int p1), .val (.int p2), .val (.int p3), .val (.int p4), .val (.int p5), .val (.ref b262), .val (.int ((p5 &&& (2147483647 : Int32)) % (9 : Int32))), .unset]) at_72 rfl rfl rfl ?_
  refine g_new C (pc' := 77) (k' := 2) (n' := 11) (wd hw 2 rfl) (wd hw 3 rfl) (wd hw 4 rfl) at_74 (by decide) (by decide) rfl rfl rfl (fun h305 b306 ex307 E308 A309 D310 => ?_)
  have ne_b262_b306 : b262 ≠ b306 := Nat.ne_of_lt (by rw [ex307]; exact f304.lt)
  have ge_b306 : n0 ≤ b306 := by rw [ex307]; exact f303.1 ▸ f303.2.1
  have f311 := f303.ext E308
  have f312 := f304.ext E308
  have F_blocks_b306 : Fld Z h305 b306 "com/example/ratatoskr/ratatoskr/index/IntList" "blocks" "[[I" .null := D310 (Or.inl (wd hw 15 rfl)) (ty := (.array (.array .int))) (by decide)
  have F_size_b306 : Fld Z h305 b306 "com/example/ratatoskr/ratatoskr/index/IntList" "size" "I" (.int (0 : Int32)) := D310 (Or.inl (wd hw 22 rfl)) (ty := .int) (by decide)
  refine g_dup C (pc' := 78) at_77 rfl rfl rfl ?_
  refine g_special C (pc' := 81) (k' := 4) (n' := 20) (argsL := []) (rest := [(.ref b306)]) (wd hw 5 rfl) (wd hw 6 rfl) (wd hw 4 rfl) (wd hw 7 rfl) (by decide) rfl at_78 pd_0 rfl rfl rfl (il_init l Z a0 hw n0 h305 f311  b306 ge_b306 A309 F_blocks_b306 F_size_b306) (Nat.le_of_ble_eq_true rfl) (Nat.le_of_ble_eq_true rfl) (Nat.le_of_ble_eq_true rfl) (Nat.le_of_ble_eq_true rfl) rfl rfl rfl (fun v316 h315 q317 => ?_)
  obtain ⟨rfl, K313, bl, d, kB, kD, hbl, hd, P314⟩ := q317
  have ne_b262_bl : b262 ≠ bl := Nat.ne_of_lt (Nat.lt_of_lt_of_le f312.lt hbl)
  have ne_b306_bl : b306 ≠ bl := Nat.ne_of_lt (Nat.lt_of_lt_of_le A309.lt hbl)
  have ge_bl : n0 ≤ bl := Nat.le_trans (f311.1 ▸ f311.2.1) hbl
  have ne_b262_d : b262 ≠ d := Nat.ne_of_lt (Nat.lt_of_lt_of_le f312.lt hd)
  have ne_b306_d : b306 ≠ d := Nat.ne_of_lt (Nat.lt_of_lt_of_le A309.lt hd)
  have ge_d : n0 ≤ d := Nat.le_trans (f311.1 ▸ f311.2.1) hd
  have f318 := f311.keep K313 (allS ge_b306 all0)
  have f319 := f312.keep K313 (ninS ne_b262_b306 nin0)
  have f320 := A309.keep K313
  show G w _ h315 4 20 81 #[.val (.int p0), .val (.int p1), .val (.int p2), .val (.int p3), .val (.int p4), .val (.int p5), .val (.ref b262), .val (.int ((p5 &&& (2147483647 : Int32)) % (9 : Int32))), .unset] [(.ref b306)]
  refine g_astore C (pc' := 83) (Ls' := #[.val (.int p0), .val (.int p1), .val (.int p2), .val (.int p3), .val (.int p4), .val (.int p5), .val (.ref b262), .val (.int ((p5 &&& (2147483647 : Int32)) % (9 : Int32))), .val (.ref b306)]) at_81 rfl rfl rfl rfl ?_
  refine g_aload C (pc' := 85) at_83 rfl rfl rfl ?_
  refine g_aload C (pc' := 87) at_85 rfl rfl rfl ?_
  refine g_iconst C (pc' := 88) (v := (0 : Int32)) at_87 (by decide) rfl ?_
  refine g_iaload C (pc' := 89) (x := p0) at_88 rfl f319 (by decide) (by decide) rfl rfl ?_
  refine g_virtual C (pc' := 92) (k' := 4) (n' := 20) (argsL := [(.int p0)]) (rest := []) (wd hw 16 rfl) (wd hw 17 rfl) (nfSel (wd hw 19 rfl)) (wd hw 19 rfl) (wd hw 18 rfl) (wd hw 4 rfl) (wd hw 20 rfl) (by decide) at_89 pd_1 rfl rfl rfl f320 (il_add0 l Z a0 hw n0 h315 f318  b306 bl d kB kD (0 : Int32) (0 : Int32) (0 : Int32) (0 : Int32) (0 : Int32) (0 : Int32) (0 : Int32) (0 : Int32) p0 P314) (Nat.le_of_ble_eq_true rfl) (Nat.le_of_ble_eq_true rfl) (Nat.le_of_ble_eq_true rfl) (Nat.le_of_ble_eq_true rfl) rfl rfl rfl (fun v324 h323 q325 => ?_)
  obtain ⟨rfl, K321, P322⟩ := q325
  have f326 := f318.keep K321 (allS ge_b306 (allS ge_bl (allS ge_d all0)))
  have f327 := f319.keep K321 (ninS ne_b262_b306 (ninS ne_b262_bl (ninS ne_b262_d nin0)))
  have f328 := f320.keep K321
  show G w _ h323 4 20 92 #[.val (.int p0), .val (.int p1), .val (.int p2), .val (.int p3), .val (.int p4), .val (.int p5), .val (.ref b262), .val (.int ((p5 &&& (2147483647 : Int32)) % (9 : Int32))), .val (.ref b306)] []
  refine g_aload C (pc' := 94) at_92 rfl rfl rfl ?_
  refine g_aload C (pc' := 96) at_94 rfl rfl rfl ?_
  refine g_iconst C (pc' := 97) (v := (1 : Int32)) at_96 (by decide) rfl ?_
  refine g_iaload C (pc' := 98) (x := p1) at_97 rfl f327 (by decide) (by decide) rfl rfl ?_
  refine g_virtual C (pc' := 101) (k' := 4) (n' := 20) (argsL := [(.int p1)]) (rest := []) (wd hw 16 rfl) (wd hw 17 rfl) (nfSel (wd hw 19 rfl)) (wd hw 19 rfl) (wd hw 18 rfl) (wd hw 4 rfl) (wd hw 20 rfl) (by decide) at_98 pd_1 rfl rfl rfl f328 (il_add1 l Z a0 hw n0 h323 f326  b306 bl d kB kD p0 (0 : Int32) (0 : Int32) (0 : Int32) (0 : Int32) (0 : Int32) (0 : Int32) (0 : Int32) p1 P322) (Nat.le_of_ble_eq_true rfl) (Nat.le_of_ble_eq_true rfl) (Nat.le_of_ble_eq_true rfl) (Nat.le_of_ble_eq_true rfl) rfl rfl rfl (fun v332 h331 q333 => ?_)
  obtain ⟨rfl, K329, P330⟩ := q333
  have f334 := f326.keep K329 (allS ge_b306 (allS ge_bl (allS ge_d all0)))
  have f335 := f327.keep K329 (ninS ne_b262_b306 (ninS ne_b262_bl (ninS ne_b262_d nin0)))
  have f336 := f328.keep K329
  show G w _ h331 4 20 101 #[.val (.int p0), .val (.int p1), .val (.int p2), .val (.int p3), .val (.int p4), .val (.int p5), .val (.ref b262), .val (.int ((p5 &&& (2147483647 : Int32)) % (9 : Int32))), .val (.ref b306)] []
  refine g_aload C (pc' := 103) at_101 rfl rfl rfl ?_
  refine g_aload C (pc' := 105) at_103 rfl rfl rfl ?_
  refine g_iconst C (pc' := 106) (v := (2 : Int32)) at_105 (by decide) rfl ?_
  refine g_iaload C (pc' := 107) (x := p2) at_106 rfl f335 (by decide) (by decide) rfl rfl ?_
  refine g_virtual C (pc' := 110) (k' := 4) (n' := 20) (argsL := [(.int p2)]) (rest := []) (wd hw 16 rfl) (wd hw 17 rfl) (nfSel (wd hw 19 rfl)) (wd hw 19 rfl) (wd hw 18 rfl) (wd hw 4 rfl) (wd hw 20 rfl) (by decide) at_107 pd_1 rfl rfl rfl f336 (il_add2 l Z a0 hw n0 h331 f334  b306 bl d kB kD p0 p1 (0 : Int32) (0 : Int32) (0 : Int32) (0 : Int32) (0 : Int32) (0 : Int32) p2 P330) (Nat.le_of_ble_eq_true rfl) (Nat.le_of_ble_eq_true rfl) (Nat.le_of_ble_eq_true rfl) (Nat.le_of_ble_eq_true rfl) rfl rfl rfl (fun v340 h339 q341 => ?_)
  obtain ⟨rfl, K337, P338⟩ := q341
  have f342 := f334.keep K337 (allS ge_b306 (allS ge_bl (allS ge_d all0)))
  have f343 := f335.keep K337 (ninS ne_b262_b306 (ninS ne_b262_bl (ninS ne_b262_d nin0)))
  have f344 := f336.keep K337
  show G w _ h339 4 20 110 #[.val (.int p0), .val (.int p1), .val (.int p2), .val (.int p3), .val (.int p4), .val (.int p5), .val (.ref b262), .val (.int ((p5 &&& (2147483647 : Int32)) % (9 : Int32))), .val (.ref b306)] []
  refine g_aload C (pc' := 112) at_110 rfl rfl rfl ?_
  refine g_aload C (pc' := 114) at_112 rfl rfl rfl ?_
  refine g_iconst C (pc' := 115) (v := (3 : Int32)) at_114 (by decide) rfl ?_
  refine g_iaload C (pc' := 116) (x := p3) at_115 rfl f343 (by decide) (by decide) rfl rfl ?_
  refine g_virtual C (pc' := 119) (k' := 4) (n' := 20) (argsL := [(.int p3)]) (rest := []) (wd hw 16 rfl) (wd hw 17 rfl) (nfSel (wd hw 19 rfl)) (wd hw 19 rfl) (wd hw 18 rfl) (wd hw 4 rfl) (wd hw 20 rfl) (by decide) at_116 pd_1 rfl rfl rfl f344 (il_add3 l Z a0 hw n0 h339 f342  b306 bl d kB kD p0 p1 p2 (0 : Int32) (0 : Int32) (0 : Int32) (0 : Int32) (0 : Int32) p3 P338) (Nat.le_of_ble_eq_true rfl) (Nat.le_of_ble_eq_true rfl) (Nat.le_of_ble_eq_true rfl) (Nat.le_of_ble_eq_true rfl) rfl rfl rfl (fun v348 h347 q349 => ?_)
  obtain ⟨rfl, K345, P346⟩ := q349
  have f350 := f342.keep K345 (allS ge_b306 (allS ge_bl (allS ge_d all0)))
  have f351 := f343.keep K345 (ninS ne_b262_b306 (ninS ne_b262_bl (ninS ne_b262_d nin0)))
  have f352 := f344.keep K345
  show G w _ h347 4 20 119 #[.val (.int p0), .val (.int p1), .val (.int p2), .val (.int p3), .val (.int p4), .val (.int p5), .val (.ref b262), .val (.int ((p5 &&& (2147483647 : Int32)) % (9 : Int32))), .val (.ref b306)] []
  refine g_aload C (pc' := 121) at_119 rfl rfl rfl ?_
  refine g_aload C (pc' := 123) at_121 rfl rfl rfl ?_
  refine g_iconst C (pc' := 124) (v := (4 : Int32)) at_123 (by decide) rfl ?_
  refine g_iaload C (pc' := 125) (x := p4) at_124 rfl f351 (by decide) (by decide) rfl rfl ?_
  refine g_virtual C (pc' := 128) (k' := 4) (n' := 20) (argsL := [(.int p4)]) (rest := []) (wd hw 16 rfl) (wd hw 17 rfl) (nfSel (wd hw 19 rfl)) (wd hw 19 rfl) (wd hw 18 rfl) (wd hw 4 rfl) (wd hw 20 rfl) (by decide) at_125 pd_1 rfl rfl rfl f352 (il_add4 l Z a0 hw n0 h347 f350  b306 bl d kB kD p0 p1 p2 p3 (0 : Int32) (0 : Int32) (0 : Int32) (0 : Int32) p4 P346) (Nat.le_of_ble_eq_true rfl) (Nat.le_of_ble_eq_true rfl) (Nat.le_of_ble_eq_true rfl) (Nat.le_of_ble_eq_true rfl) rfl rfl rfl (fun v356 h355 q357 => ?_)
  obtain ⟨rfl, K353, P354⟩ := q357
  have f358 := f350.keep K353 (allS ge_b306 (allS ge_bl (allS ge_d all0)))
  have f359 := f351.keep K353 (ninS ne_b262_b306 (ninS ne_b262_bl (ninS ne_b262_d nin0)))
  have f360 := f352.keep K353
  show G w _ h355 4 20 128 #[.val (.int p0), .val (.int p1), .val (.int p2), .val (.int p3), .val (.int p4), .val (.int p5), .val (.ref b262), .val (.int ((p5 &&& (2147483647 : Int32)) % (9 : Int32))), .val (.ref b306)] []
  refine g_aload C (pc' := 130) at_128 rfl rfl rfl ?_
  refine g_aload C (pc' := 132) at_130 rfl rfl rfl ?_
  refine g_iconst C (pc' := 133) (v := (5 : Int32)) at_132 (by decide) rfl ?_
  refine g_iaload C (pc' := 134) (x := (p0 ^^^ p1)) at_133 rfl f359 (by decide) (by decide) rfl rfl ?_
  refine g_virtual C (pc' := 137) (k' := 4) (n' := 20) (argsL := [(.int (p0 ^^^ p1))]) (rest := []) (wd hw 16 rfl) (wd hw 17 rfl) (nfSel (wd hw 19 rfl)) (wd hw 19 rfl) (wd hw 18 rfl) (wd hw 4 rfl) (wd hw 20 rfl) (by decide) at_134 pd_1 rfl rfl rfl f360 (il_add5 l Z a0 hw n0 h355 f358  b306 bl d kB kD p0 p1 p2 p3 p4 (0 : Int32) (0 : Int32) (0 : Int32) (p0 ^^^ p1) P354) (Nat.le_of_ble_eq_true rfl) (Nat.le_of_ble_eq_true rfl) (Nat.le_of_ble_eq_true rfl) (Nat.le_of_ble_eq_true rfl) rfl rfl rfl (fun v364 h363 q365 => ?_)
  obtain ⟨rfl, K361, P362⟩ := q365
  have f366 := f358.keep K361 (allS ge_b306 (allS ge_bl (allS ge_d all0)))
  have f367 := f359.keep K361 (ninS ne_b262_b306 (ninS ne_b262_bl (ninS ne_b262_d nin0)))
  have f368 := f360.keep K361
  show G w _ h363 4 20 137 #[.val (.int p0), .val (.int p1), .val (.int p2), .val (.int p3), .val (.int p4), .val (.int p5), .val (.ref b262), .val (.int ((p5 &&& (2147483647 : Int32)) % (9 : Int32))), .val (.ref b306)] []
  refine g_aload C (pc' := 139) at_137 rfl rfl rfl ?_
  refine g_aload C (pc' := 141) at_139 rfl rfl rfl ?_
  refine g_bipush C (pc' := 143) (v := (6 : Int32)) at_141 (by decide) rfl ?_
  refine g_iaload C (pc' := 144) (x := (p2 ^^^ (-1 : Int32))) at_143 rfl f367 (by decide) (by decide) rfl rfl ?_
  refine g_virtual C (pc' := 147) (k' := 4) (n' := 20) (argsL := [(.int (p2 ^^^ (-1 : Int32)))]) (rest := []) (wd hw 16 rfl) (wd hw 17 rfl) (nfSel (wd hw 19 rfl)) (wd hw 19 rfl) (wd hw 18 rfl) (wd hw 4 rfl) (wd hw 20 rfl) (by decide) at_144 pd_1 rfl rfl rfl f368 (il_add6 l Z a0 hw n0 h363 f366  b306 bl d kB kD p0 p1 p2 p3 p4 (p0 ^^^ p1) (0 : Int32) (0 : Int32) (p2 ^^^ (-1 : Int32)) P362) (Nat.le_of_ble_eq_true rfl) (Nat.le_of_ble_eq_true rfl) (Nat.le_of_ble_eq_true rfl) (Nat.le_of_ble_eq_true rfl) rfl rfl rfl (fun v372 h371 q373 => ?_)
  obtain ⟨rfl, K369, P370⟩ := q373
  have f374 := f366.keep K369 (allS ge_b306 (allS ge_bl (allS ge_d all0)))
  have f375 := f367.keep K369 (ninS ne_b262_b306 (ninS ne_b262_bl (ninS ne_b262_d nin0)))
  have f376 := f368.keep K369
  show G w _ h371 4 20 147 #[.val (.int p0), .val (.int p1), .val (.int p2), .val (.int p3), .val (.int p4), .val (.int p5), .val (.ref b262), .val (.int ((p5 &&& (2147483647 : Int32)) % (9 : Int32))), .val (.ref b306)] []
  refine g_aload C (pc' := 149) at_147 rfl rfl rfl ?_
  refine g_aload C (pc' := 151) at_149 rfl rfl rfl ?_
  refine g_bipush C (pc' := 153) (v := (7 : Int32)) at_151 (by decide) rfl ?_
  refine g_iaload C (pc' := 154) (x := (p3 + p4)) at_153 rfl f375 (by decide) (by decide) rfl rfl ?_
  refine g_virtual C (pc' := 157) (k' := 4) (n' := 20) (argsL := [(.int (p3 + p4))]) (rest := []) (wd hw 16 rfl) (wd hw 17 rfl) (nfSel (wd hw 19 rfl)) (wd hw 19 rfl) (wd hw 18 rfl) (wd hw 4 rfl) (wd hw 20 rfl) (by decide) at_154 pd_1 rfl rfl rfl f376 (il_add7 l Z a0 hw n0 h371 f374  b306 bl d kB kD p0 p1 p2 p3 p4 (p0 ^^^ p1) (p2 ^^^ (-1 : Int32)) (0 : Int32) (p3 + p4) P370) (Nat.le_of_ble_eq_true rfl) (Nat.le_of_ble_eq_true rfl) (Nat.le_of_ble_eq_true rfl) (Nat.le_of_ble_eq_true rfl) rfl rfl rfl (fun v380 h379 q381 => ?_)
  obtain ⟨rfl, K377, P378⟩ := q381
  have f382 := f374.keep K377 (allS ge_b306 (allS ge_bl (allS ge_d all0)))
  have f383 := f375.keep K377 (ninS ne_b262_b306 (ninS ne_b262_bl (ninS ne_b262_d nin0)))
  have f384 := f376.keep K377
  show G w _ h379 4 20 157 #[.val (.int p0), .val (.int p1), .val (.int p2), .val (.int p3), .val (.int p4), .val (.int p5), .val (.ref b262), .val (.int ((p5 &&& (2147483647 : Int32)) % (9 : Int32))), .val (.ref b306)] []
  refine g_aload C (pc' := 159) at_157 rfl rfl rfl ?_
  refine g_aload C (pc' := 161) at_159 rfl rfl rfl ?_
  refine g_bipush C (pc' := 163) (v := (8 : Int32)) at_161 (by decide) rfl ?_
  refine g_iaload C (pc' := 164) (x := (p1 - p0)) at_163 rfl f383 (by decide) (by decide) rfl rfl ?_
  refine g_virtual C (pc' := 167) (k' := 5) (n' := 36) (argsL := [(.int (p1 - p0))]) (rest := []) (wd hw 16 rfl) (wd hw 17 rfl) (nfSel (wd hw 19 rfl)) (wd hw 19 rfl) (wd hw 18 rfl) (wd hw 4 rfl) (wd hw 20 rfl) (by decide) at_164 pd_1 rfl rfl rfl f384 (il_add8 l Z a0 hw n0 h379 f382  b306 bl d kB kD p0 p1 p2 p3 p4 (p0 ^^^ p1) (p2 ^^^ (-1 : Int32)) (p3 + p4) (p1 - p0) P378) (Nat.le_of_ble_eq_true rfl) (Nat.le_of_ble_eq_true rfl) (Nat.le_of_ble_eq_true rfl) (Nat.le_of_ble_eq_true rfl) rfl rfl rfl (fun v388 h387 q389 => ?_)
  obtain ⟨rfl, K385, dn, kDn, hdn, P386⟩ := q389
  have ne_b262_dn : b262 ≠ dn := Nat.ne_of_lt (Nat.lt_of_lt_of_le f383.lt hdn)
  have ne_b306_dn : b306 ≠ dn := Nat.ne_of_lt (Nat.lt_of_lt_of_le f384.lt hdn)
  have ge_dn : n0 ≤ dn := Nat.le_trans (f382.1 ▸ f382.2.1) hdn
  have f390 := f382.keep K385 (allS ge_b306 (allS ge_bl (allS ge_d all0)))
  have f391 := f383.keep K385 (ninS ne_b262_b306 (ninS ne_b262_bl (ninS ne_b262_d nin0)))
  have f392 := f384.keep K385
  show G w _ h387 5 36 167 #[.val (.int p0), .val (.int p1), .val (.int p2), .val (.int p3), .val (.int p4), .val (.int p5), .val (.ref b262), .val (.int ((p5 &&& (2147483647 : Int32)) % (9 : Int32))), .val (.ref b306)] []
  refine g_aload C (pc' := 169) at_167 rfl rfl rfl ?_
  refine g_iload C (pc' := 171) at_169 rfl rfl ?_
  rcases own_mod9 p5 with e9 | e9 | e9 | e9 | e9 | e9 | e9 | e9 | e9
  · rw [e9]
    refine g_virtual C (pc' := 174) (k' := 5) (n' := 36) (argsL := [(.int (0 : Int32))]) (rest := []) (wd hw 35 rfl) (wd hw 36 rfl) (nfSel (wd hw 38 rfl)) (wd hw 38 rfl) (wd hw 37 rfl) (wd hw 4 rfl) (wd hw 39 rfl) (by decide) at_171 pd_5 rfl rfl rfl f392 (il_get9_0 l Z a0 hw n0 h387 f390  b306 bl dn kB kDn p0 p1 p2 p3 p4 (p0 ^^^ p1) (p2 ^^^ (-1 : Int32)) (p3 + p4) (p1 - p0) (0 : Int32) (0 : Int32) (0 : Int32) (0 : Int32) (0 : Int32) (0 : Int32) (0 : Int32) P386) (Nat.le_of_ble_eq_true rfl) (Nat.le_of_ble_eq_true rfl) (Nat.le_of_ble_eq_true rfl) (Nat.le_of_ble_eq_true rfl) rfl rfl rfl (fun v394 h393 q395 => ?_)
    obtain ⟨rfl, eh393⟩ := q395
    subst h393
    show G w _ h387 5 36 174 #[.val (.int p0), .val (.int p1), .val (.int p2), .val (.int p3), .val (.int p4), .val (.int p5), .val (.ref b262), .val (.int (0 : Int32)), .val (.ref b306)] [(.int p0)]
    refine g_aload C (pc' := 176) at_174 rfl rfl rfl ?_
    refine g_iload C (pc' := 178) at_176 rfl rfl ?_
    refine g_iaload C (pc' := 179) (x := p0) at_178 rfl f391 (by decide) (by decide) rfl rfl ?_
    refine g_icN C (pc' := 182) at_179 rfl (says_f (cd := .ne) (fun q => q rfl)) rfl ?_
    refine g_iconst C (pc' := 183) (v := (1 : Int32)) at_182 (by decide) rfl ?_
    refine g_goto C (pc' := 187) at_183 (by decide) rfl ?_
    exact g_zreturn C at_187 rfl rfl (Nat.le_of_ble_eq_true rfl) (Nat.le_of_ble_eq_true rfl) (rfl)
  · rw [e9]
    refine g_virtual C (pc' := 174) (k' := 5) (n' := 36) (argsL := [(.int (1 : Int32))]) (rest := []) (wd hw 35 rfl) (wd hw 36 rfl) (nfSel (wd hw 38 rfl)) (wd hw 38 rfl) (wd hw 37 rfl) (wd hw 4 rfl) (wd hw 39 rfl) (by decide) at_171 pd_5 rfl rfl rfl f392 (il_get9_1 l Z a0 hw n0 h387 f390  b306 bl dn kB kDn p0 p1 p2 p3 p4 (p0 ^^^ p1) (p2 ^^^ (-1 : Int32)) (p3 + p4) (p1 - p0) (0 : Int32) (0 : Int32) (0 : Int32) (0 : Int32) (0 : Int32) (0 : Int32) (0 : Int32) P386) (Nat.le_of_ble_eq_true rfl) (Nat.le_of_ble_eq_true rfl) (Nat.le_of_ble_eq_true rfl) (Nat.le_of_ble_eq_true rfl) rfl rfl rfl (fun v397 h396 q398 => ?_)
    obtain ⟨rfl, eh396⟩ := q398
    subst h396
    show G w _ h387 5 36 174 #[.val (.int p0), .val (.int p1), .val (.int p2), .val (.int p3), .val (.int p4), .val (.int p5), .val (.ref b262), .val (.int (1 : Int32)), .val (.ref b306)] [(.int p1)]
    refine g_aload C (pc' := 176) at_174 rfl rfl rfl ?_
    refine g_iload C (pc' := 178) at_176 rfl rfl ?_
    refine g_iaload C (pc' := 179) (x := p1) at_178 rfl f391 (by decide) (by decide) rfl rfl ?_
    refine g_icN C (pc' := 182) at_179 rfl (says_f (cd := .ne) (fun q => q rfl)) rfl ?_
    refine g_iconst C (pc' := 183) (v := (1 : Int32)) at_182 (by decide) rfl ?_
    refine g_goto C (pc' := 187) at_183 (by decide) rfl ?_
    exact g_zreturn C at_187 rfl rfl (Nat.le_of_ble_eq_true rfl) (Nat.le_of_ble_eq_true rfl) (rfl)
  · rw [e9]
    refine g_virtual C (pc' := 174) (k' := 5) (n' := 36) (argsL := [(.int (2 : Int32))]) (rest := []) (wd hw 35 rfl) (wd hw 36 rfl) (nfSel (wd hw 38 rfl)) (wd hw 38 rfl) (wd hw 37 rfl) (wd hw 4 rfl) (wd hw 39 rfl) (by decide) at_171 pd_5 rfl rfl rfl f392 (il_get9_2 l Z a0 hw n0 h387 f390  b306 bl dn kB kDn p0 p1 p2 p3 p4 (p0 ^^^ p1) (p2 ^^^ (-1 : Int32)) (p3 + p4) (p1 - p0) (0 : Int32) (0 : Int32) (0 : Int32) (0 : Int32) (0 : Int32) (0 : Int32) (0 : Int32) P386) (Nat.le_of_ble_eq_true rfl) (Nat.le_of_ble_eq_true rfl) (Nat.le_of_ble_eq_true rfl) (Nat.le_of_ble_eq_true rfl) rfl rfl rfl (fun v400 h399 q401 => ?_)
    obtain ⟨rfl, eh399⟩ := q401
    subst h399
    show G w _ h387 5 36 174 #[.val (.int p0), .val (.int p1), .val (.int p2), .val (.int p3), .val (.int p4), .val (.int p5), .val (.ref b262), .val (.int (2 : Int32)), .val (.ref b306)] [(.int p2)]
    refine g_aload C (pc' := 176) at_174 rfl rfl rfl ?_
    refine g_iload C (pc' := 178) at_176 rfl rfl ?_
    refine g_iaload C (pc' := 179) (x := p2) at_178 rfl f391 (by decide) (by decide) rfl rfl ?_
    refine g_icN C (pc' := 182) at_179 rfl (says_f (cd := .ne) (fun q => q rfl)) rfl ?_
    refine g_iconst C (pc' := 183) (v := (1 : Int32)) at_182 (by decide) rfl ?_
    refine g_goto C (pc' := 187) at_183 (by decide) rfl ?_
    exact g_zreturn C at_187 rfl rfl (Nat.le_of_ble_eq_true rfl) (Nat.le_of_ble_eq_true rfl) (rfl)
  · rw [e9]
    refine g_virtual C (pc' := 174) (k' := 5) (n' := 36) (argsL := [(.int (3 : Int32))]) (rest := []) (wd hw 35 rfl) (wd hw 36 rfl) (nfSel (wd hw 38 rfl)) (wd hw 38 rfl) (wd hw 37 rfl) (wd hw 4 rfl) (wd hw 39 rfl) (by decide) at_171 pd_5 rfl rfl rfl f392 (il_get9_3 l Z a0 hw n0 h387 f390  b306 bl dn kB kDn p0 p1 p2 p3 p4 (p0 ^^^ p1) (p2 ^^^ (-1 : Int32)) (p3 + p4) (p1 - p0) (0 : Int32) (0 : Int32) (0 : Int32) (0 : Int32) (0 : Int32) (0 : Int32) (0 : Int32) P386) (Nat.le_of_ble_eq_true rfl) (Nat.le_of_ble_eq_true rfl) (Nat.le_of_ble_eq_true rfl) (Nat.le_of_ble_eq_true rfl) rfl rfl rfl (fun v403 h402 q404 => ?_)
    obtain ⟨rfl, eh402⟩ := q404
    subst h402
    show G w _ h387 5 36 174 #[.val (.int p0), .val (.int p1), .val (.int p2), .val (.int p3), .val (.int p4), .val (.int p5), .val (.ref b262), .val (.int (3 : Int32)), .val (.ref b306)] [(.int p3)]
    refine g_aload C (pc' := 176) at_174 rfl rfl rfl ?_
    refine g_iload C (pc' := 178) at_176 rfl rfl ?_
    refine g_iaload C (pc' := 179) (x := p3) at_178 rfl f391 (by decide) (by decide) rfl rfl ?_
    refine g_icN C (pc' := 182) at_179 rfl (says_f (cd := .ne) (fun q => q rfl)) rfl ?_
    refine g_iconst C (pc' := 183) (v := (1 : Int32)) at_182 (by decide) rfl ?_
    refine g_goto C (pc' := 187) at_183 (by decide) rfl ?_
    exact g_zreturn C at_187 rfl rfl (Nat.le_of_ble_eq_true rfl) (Nat.le_of_ble_eq_true rfl) (rfl)
  · rw [e9]
    refine g_virtual C (pc' := 174) (k' := 5) (n' := 36) (argsL := [(.int (4 : Int32))]) (rest := []) (wd hw 35 rfl) (wd hw 36 rfl) (nfSel (wd hw 38 rfl)) (wd hw 38 rfl) (wd hw 37 rfl) (wd hw 4 rfl) (wd hw 39 rfl) (by decide) at_171 pd_5 rfl rfl rfl f392 (il_get9_4 l Z a0 hw n0 h387 f390  b306 bl dn kB kDn p0 p1 p2 p3 p4 (p0 ^^^ p1) (p2 ^^^ (-1 : Int32)) (p3 + p4) (p1 - p0) (0 : Int32) (0 : Int32) (0 : Int32) (0 : Int32) (0 : Int32) (0 : Int32) (0 : Int32) P386) (Nat.le_of_ble_eq_true rfl) (Nat.le_of_ble_eq_true rfl) (Nat.le_of_ble_eq_true rfl) (Nat.le_of_ble_eq_true rfl) rfl rfl rfl (fun v406 h405 q407 => ?_)
    obtain ⟨rfl, eh405⟩ := q407
    subst h405
    show G w _ h387 5 36 174 #[.val (.int p0), .val (.int p1), .val (.int p2), .val (.int p3), .val (.int p4), .val (.int p5), .val (.ref b262), .val (.int (4 : Int32)), .val (.ref b306)] [(.int p4)]
    refine g_aload C (pc' := 176) at_174 rfl rfl rfl ?_
    refine g_iload C (pc' := 178) at_176 rfl rfl ?_
    refine g_iaload C (pc' := 179) (x := p4) at_178 rfl f391 (by decide) (by decide) rfl rfl ?_
    refine g_icN C (pc' := 182) at_179 rfl (says_f (cd := .ne) (fun q => q rfl)) rfl ?_
    refine g_iconst C (pc' := 183) (v := (1 : Int32)) at_182 (by decide) rfl ?_
    refine g_goto C (pc' := 187) at_183 (by decide) rfl ?_
    exact g_zreturn C at_187 rfl rfl (Nat.le_of_ble_eq_true rfl) (Nat.le_of_ble_eq_true rfl) (rfl)
  · rw [e9]
    refine g_virtual C (pc' := 174) (k' := 5) (n' := 36) (argsL := [(.int (5 : Int32))]) (rest := []) (wd hw 35 rfl) (wd hw 36 rfl) (nfSel (wd hw 38 rfl)) (wd hw 38 rfl) (wd hw 37 rfl) (wd hw 4 rfl) (wd hw 39 rfl) (by decide) at_171 pd_5 rfl rfl rfl f392 (il_get9_5 l Z a0 hw n0 h387 f390  b306 bl dn kB kDn p0 p1 p2 p3 p4 (p0 ^^^ p1) (p2 ^^^ (-1 : Int32)) (p3 + p4) (p1 - p0) (0 : Int32) (0 : Int32) (0 : Int32) (0 : Int32) (0 : Int32) (0 : Int32) (0 : Int32) P386) (Nat.le_of_ble_eq_true rfl) (Nat.le_of_ble_eq_true rfl) (Nat.le_of_ble_eq_true rfl) (Nat.le_of_ble_eq_true rfl) rfl rfl rfl (fun v409 h408 q410 => ?_)
    obtain ⟨rfl, eh408⟩ := q410
    subst h408
    show G w _ h387 5 36 174 #[.val (.int p0), .val (.int p1), .val (.int p2), .val (.int p3), .val (.int p4), .val (.int p5), .val (.ref b262), .val (.int (5 : Int32)), .val (.ref b306)] [(.int (p0 ^^^ p1))]
    refine g_aload C (pc' := 176) at_174 rfl rfl rfl ?_
    refine g_iload C (pc' := 178) at_176 rfl rfl ?_
    refine g_iaload C (pc' := 179) (x := (p0 ^^^ p1)) at_178 rfl f391 (by decide) (by decide) rfl rfl ?_
    refine g_icN C (pc' := 182) at_179 rfl (says_f (cd := .ne) (fun q => q rfl)) rfl ?_
    refine g_iconst C (pc' := 183) (v := (1 : Int32)) at_182 (by decide) rfl ?_
    refine g_goto C (pc' := 187) at_183 (by decide) rfl ?_
    exact g_zreturn C at_187 rfl rfl (Nat.le_of_ble_eq_true rfl) (Nat.le_of_ble_eq_true rfl) (rfl)
  · rw [e9]
    refine g_virtual C (pc' := 174) (k' := 5) (n' := 36) (argsL := [(.int (6 : Int32))]) (rest := []) (wd hw 35 rfl) (wd hw 36 rfl) (nfSel (wd hw 38 rfl)) (wd hw 38 rfl) (wd hw 37 rfl) (wd hw 4 rfl) (wd hw 39 rfl) (by decide) at_171 pd_5 rfl rfl rfl f392 (il_get9_6 l Z a0 hw n0 h387 f390  b306 bl dn kB kDn p0 p1 p2 p3 p4 (p0 ^^^ p1) (p2 ^^^ (-1 : Int32)) (p3 + p4) (p1 - p0) (0 : Int32) (0 : Int32) (0 : Int32) (0 : Int32) (0 : Int32) (0 : Int32) (0 : Int32) P386) (Nat.le_of_ble_eq_true rfl) (Nat.le_of_ble_eq_true rfl) (Nat.le_of_ble_eq_true rfl) (Nat.le_of_ble_eq_true rfl) rfl rfl rfl (fun v412 h411 q413 => ?_)
    obtain ⟨rfl, eh411⟩ := q413
    subst h411
    show G w _ h387 5 36 174 #[.val (.int p0), .val (.int p1), .val (.int p2), .val (.int p3), .val (.int p4), .val (.int p5), .val (.ref b262), .val (.int (6 : Int32)), .val (.ref b306)] [(.int (p2 ^^^ (-1 : Int32)))]
    refine g_aload C (pc' := 176) at_174 rfl rfl rfl ?_
    refine g_iload C (pc' := 178) at_176 rfl rfl ?_
    refine g_iaload C (pc' := 179) (x := (p2 ^^^ (-1 : Int32))) at_178 rfl f391 (by decide) (by decide) rfl rfl ?_
    refine g_icN C (pc' := 182) at_179 rfl (says_f (cd := .ne) (fun q => q rfl)) rfl ?_
    refine g_iconst C (pc' := 183) (v := (1 : Int32)) at_182 (by decide) rfl ?_
    refine g_goto C (pc' := 187) at_183 (by decide) rfl ?_
    exact g_zreturn C at_187 rfl rfl (Nat.le_of_ble_eq_true rfl) (Nat.le_of_ble_eq_true rfl) (rfl)
  · rw [e9]
    refine g_virtual C (pc' := 174) (k' := 5) (n' := 36) (argsL := [(.int (7 : Int32))]) (rest := []) (wd hw 35 rfl) (wd hw 36 rfl) (nfSel (wd hw 38 rfl)) (wd hw 38 rfl) (wd hw 37 rfl) (wd hw 4 rfl) (wd hw 39 rfl) (by decide) at_171 pd_5 rfl rfl rfl f392 (il_get9_7 l Z a0 hw n0 h387 f390  b306 bl dn kB kDn p0 p1 p2 p3 p4 (p0 ^^^ p1) (p2 ^^^ (-1 : Int32)) (p3 + p4) (p1 - p0) (0 : Int32) (0 : Int32) (0 : Int32) (0 : Int32) (0 : Int32) (0 : Int32) (0 : Int32) P386) (Nat.le_of_ble_eq_true rfl) (Nat.le_of_ble_eq_true rfl) (Nat.le_of_ble_eq_true rfl) (Nat.le_of_ble_eq_true rfl) rfl rfl rfl (fun v415 h414 q416 => ?_)
    obtain ⟨rfl, eh414⟩ := q416
    subst h414
    show G w _ h387 5 36 174 #[.val (.int p0), .val (.int p1), .val (.int p2), .val (.int p3), .val (.int p4), .val (.int p5), .val (.ref b262), .val (.int (7 : Int32)), .val (.ref b306)] [(.int (p3 + p4))]
    refine g_aload C (pc' := 176) at_174 rfl rfl rfl ?_
    refine g_iload C (pc' := 178) at_176 rfl rfl ?_
    refine g_iaload C (pc' := 179) (x := (p3 + p4)) at_178 rfl f391 (by decide) (by decide) rfl rfl ?_
    refine g_icN C (pc' := 182) at_179 rfl (says_f (cd := .ne) (fun q => q rfl)) rfl ?_
    refine g_iconst C (pc' := 183) (v := (1 : Int32)) at_182 (by decide) rfl ?_
    refine g_goto C (pc' := 187) at_183 (by decide) rfl ?_
    exact g_zreturn C at_187 rfl rfl (Nat.le_of_ble_eq_true rfl) (Nat.le_of_ble_eq_true rfl) (rfl)
  · rw [e9]
    refine g_virtual C (pc' := 174) (k' := 5) (n' := 36) (argsL := [(.int (8 : Int32))]) (rest := []) (wd hw 35 rfl) (wd hw 36 rfl) (nfSel (wd hw 38 rfl)) (wd hw 38 rfl) (wd hw 37 rfl) (wd hw 4 rfl) (wd hw 39 rfl) (by decide) at_171 pd_5 rfl rfl rfl f392 (il_get9_8 l Z a0 hw n0 h387 f390  b306 bl dn kB kDn p0 p1 p2 p3 p4 (p0 ^^^ p1) (p2 ^^^ (-1 : Int32)) (p3 + p4) (p1 - p0) (0 : Int32) (0 : Int32) (0 : Int32) (0 : Int32) (0 : Int32) (0 : Int32) (0 : Int32) P386) (Nat.le_of_ble_eq_true rfl) (Nat.le_of_ble_eq_true rfl) (Nat.le_of_ble_eq_true rfl) (Nat.le_of_ble_eq_true rfl) rfl rfl rfl (fun v418 h417 q419 => ?_)
    obtain ⟨rfl, eh417⟩ := q419
    subst h417
    show G w _ h387 5 36 174 #[.val (.int p0), .val (.int p1), .val (.int p2), .val (.int p3), .val (.int p4), .val (.int p5), .val (.ref b262), .val (.int (8 : Int32)), .val (.ref b306)] [(.int (p1 - p0))]
    refine g_aload C (pc' := 176) at_174 rfl rfl rfl ?_
    refine g_iload C (pc' := 178) at_176 rfl rfl ?_
    refine g_iaload C (pc' := 179) (x := (p1 - p0)) at_178 rfl f391 (by decide) (by decide) rfl rfl ?_
    refine g_icN C (pc' := 182) at_179 rfl (says_f (cd := .ne) (fun q => q rfl)) rfl ?_
    refine g_iconst C (pc' := 183) (v := (1 : Int32)) at_182 (by decide) rfl ?_
    refine g_goto C (pc' := 187) at_183 (by decide) rfl ?_
    exact g_zreturn C at_187 rfl rfl (Nat.le_of_ble_eq_true rfl) (Nat.le_of_ble_eq_true rfl) (rfl)
set_option maxRecDepth 65536 in
set_option maxHeartbeats 40000000 in
theorem comes_1 {Post : Tables → Env → Array Value → State → Outcome → State → Prop} (hpost : ∀ tb e args s v u, (limb_1_1.after args s (.returned v) u = true ∧ limb_1_2.after args s (.returned v) u = true ∧ True) → FrameEnd s (.returned v) u (Jvm.fieldLocs frame_1_writes args s ++ Jvm.arrayLocs frame_1_arrays args s ++ Jvm.staticLocs frame_1_statics s) 24 192 → Post tb e args s (.returned v) u) :
    ArmFor flags0 classFile x code maxLocals ret World_1 tables_1 room_1 Calls_1 rest_1 Pre_1 Post := by
  intro l hfl _ _ p e ha hc hk s m args below hf hA hF happ hP
  obtain ⟨hcalls, hrest, hpre⟩ := hP
  obtain ⟨-, -, -, hnamed, -, -, -, hat⟩ := (Spec.applies_iff hf).mp happ
  obtain ⟨hg, hn⟩ := and_e (Cond.before_iff.mp (show (Jvm.Cond.and given_1 narrow_1).before args s = true from hpre))
  obtain ⟨hga, hgb⟩ := and_e hg
  obtain ⟨hgba, hgbb⟩ := and_e hgb
  obtain ⟨hgbba, hgbbb⟩ := and_e hgbb
  obtain ⟨hgbbba, hgbbbb⟩ := and_e hgbbb
  obtain ⟨hgbbbba, hgbbbbb⟩ := and_e hgbbbb
  obtain ⟨hgbbbbba, hgbbbbbb⟩ := and_e hgbbbbb
  obtain ⟨w0, w1, w2, w3, w4, w5, rfl⟩ : ∃ w0 w1 w2 w3 w4 w5 : Value, args = #[w0, w1, w2, w3, w4, w5] := by
    have hs : args.size = 6 := by simpa [Cond.value, given_1] using hga
    obtain ⟨L⟩ := args
    match L, hs with
    | [w0, w1, w2, w3, w4, w5], _ => exact ⟨w0, w1, w2, w3, w4, w5, rfl⟩
  have hw := fun d (hd : d ∈ tables_1) => atoms_spec (ws := Jvm.Cond.code x code maxLocals ret :: tables_1) hat d (List.mem_cons_of_mem _ hd)
  have hfit : Fit s := fun {y c} hc i hi => by
    obtain ⟨ha, rfl⟩ := Array.getElem?_eq_some_iff.mp hc
    have q := List.all_eq_true.mp ((Array.all_eq_true_iff_forall_mem.mp hF) _ (Array.getElem_mem ha)) i (List.mem_range.mpr hi)
    simpa [Array.getElem?_eq_getElem hi] using q
  obtain ⟨i0, ei0⟩ := is_v hgba
  obtain rfl : w0 = (.int i0) := Option.some.inj ei0
  obtain ⟨i1, ei1⟩ := is_v hgbba
  obtain rfl : w1 = (.int i1) := Option.some.inj ei1
  obtain ⟨i2, ei2⟩ := is_v hgbbba
  obtain rfl : w2 = (.int i2) := Option.some.inj ei2
  obtain ⟨i3, ei3⟩ := is_v hgbbbba
  obtain rfl : w3 = (.int i3) := Option.some.inj ei3
  obtain ⟨i4, ei4⟩ := is_v hgbbbbba
  obtain rfl : w4 = (.int i4) := Option.some.inj ei4
  obtain ⟨i5, ei5⟩ := is_v hgbbbbbb
  obtain rfl : w5 = (.int i5) := Option.some.inj ei5
  obtain ⟨n, o, h1, h2, h3, _, L, rfl, ⟨rfl, N⟩, hq⟩ := rm0 l s _ hw s.heap.size s.heap (Old.start s)  i0 i1 i2 i3 i4 i5  tables_1 p e ha hc hk s m _ below hf ((Spec.applies_iff_loose hf).mp happ).1 ⟨rfl, State.Warmed39.refl s, rfl⟩ trivial
  refine ⟨n, _, h1, h2, h3, hpost _ _ _ _ _ _ ⟨Cond.after_iff.mpr rfl, Cond.after_iff.mpr (eq_i res_at (Term.int_eval (1)) rfl), trivial⟩ ⟨hq.1, hq.2.1, (hq.2.2.sift fun y hy => Or.inr (N y hy)).mono (by decide) (by decide)⟩⟩
theorem main_1_1 : Claimed_1_1 := comes_1 fun _ _ _ _ _ _ h hF => ⟨h.1, hF⟩
theorem main_1_2 : Claimed_1_2 := comes_1 fun _ _ _ _ _ _ h hF => ⟨h.2.1, hF⟩
end Jvm.Pilot.@@N@@
namespace Jvm.Pilot.@@N@@
open Jvm Jvm.ClassFile Sem Op Lib Jvm.Free Jvm.Stand Jvm.Pilot.@@N@@.Jvm.D
/-! MADE BY PROGRAM (witnessworld.py) out of the Statement's table words and the real class files: 12 classes; the members and pool entries that the words name. The judged class is class 1, her method 1. -/
namespace start1
open Jvm.ClassFile
def u (s : String) : CpInfo := .utf8 (stringToUtf16 s)
/-- a pool by its gaps: so many unusable entries, then the entry; so many at the end -/
def gap : Nat → List CpInfo → List CpInfo
  | 0, r => r
  | n + 1, r => .unusable :: gap n r
def poolList (es : List (Nat × CpInfo)) (last : Nat) : List CpInfo := es.foldr (fun e r => gap e.1 (e.2 :: r)) (gap last [])
def pool (es : List (Nat × CpInfo)) (last : Nat) : Array CpInfo := ⟨poolList es last⟩
def fileOf (pool : Array CpInfo) (this : Nat) (attrs : Array Attribute := #[]) (ms : Array MethodInfo := #[]) (fl : Nat := 33) (sup : Nat := 0) (ifs : Array Nat := #[]) (fds : Array FieldInfo := #[]) : ClassFile where
  minorVersion := 0
  majorVersion := 65
  constantPool := pool
  accessFlags := fl
  thisClass := this
  superClass := sup
  interfaces := ifs
  fields := fds
  methods := ms
  attributes := attrs
def plain (name : String) (sup : Option ClassId) : Class where
  name := name
  kind := .ordinary
  loader := none
  accessFlags := 33
  super := sup
  interfaces := #[]
  cf := none
  fields := #[]
  methods := #[]
  instanceTypes := #[]
  staticTypes := #[]
  resolved := #[]
  callSites := []
  init := .initialized
  statics := none
  mirror := none

def pool0 : Array CpInfo := pool [(5, u "<init>"), (0, u "()V"), (1, .class_ 10), (1, u "java/lang/Object")] 113

def k0c0 : Code := { maxStack := 0, maxLocals := 1, code := object_method_1_code, exceptionTable := #[], attributes := #[] }
def k0m0 : Method := { name := "<init>", desc := "()V", sig := { parameters := [], returnType := none }, accessFlags := 1, code := some k0c0 }
/-- java/lang/Object -/
def k0 : Class := { plain "java/lang/Object" none with
  accessFlags := 33
  interfaces := #[]
  cf := some (fileOf pool0 8 #[] #[{ accessFlags := 1, nameIndex := 5, descriptorIndex := 6, attributes := #[] }] 33 0 #[] #[])
  fields := #[]
  methods := #[k0m0]
  instanceTypes := #[]
  staticTypes := #[]
  resolved := Array.replicate 124 none
  statics := none }

def pool1 : Array CpInfo := pool [(2, .class_ 4), (0, .nameAndType 5 6), (0, u "java/lang/Object"), (0, u "<init>"), (0, u "()V"), (0, .integer 2147483647), (0, .class_ 9), (0, u "com/example/ratatoskr/ratatoskr/index/IntList"), (0, .methodref 8 3), (0, .methodref 8 12), (0, .nameAndType 13 14), (0, u "add"), (0, u "(I)V"), (0, .methodref 8 16), (0, .nameAndType 17 18), (0, u "get"), (0, u "(I)I"), (0, .class_ 20), (0, u "com/example/ratatoskr/ratatoskr/index/IntListGetPinLaw"), (2, u "law"), (0, u "(IIIIII)Z")] 5

def k1m0 : Method := { name := "<init>", desc := "()V", sig := { parameters := [], returnType := none }, accessFlags := 1, code := none }
def k1c1 : Code := { maxStack := 4, maxLocals := 9, code := code, exceptionTable := #[], attributes := #[] }
def k1m1 : Method := { name := "law", desc := "(IIIIII)Z", sig := { parameters := [.int, .int, .int, .int, .int, .int], returnType := some .boolean }, accessFlags := 9, code := some k1c1 }
/-- com/example/ratatoskr/ratatoskr/index/IntListGetPinLaw -/
def k1 : Class := { plain "com/example/ratatoskr/ratatoskr/index/IntListGetPinLaw" (some 0) with
  accessFlags := 49
  interfaces := #[]
  cf := some (fileOf pool1 19 #[] #[{ accessFlags := 1, nameIndex := 5, descriptorIndex := 6, attributes := #[] }, { accessFlags := 9, nameIndex := 23, descriptorIndex := 24, attributes := #[] }] 49 2 #[] #[])
  fields := #[]
  methods := #[k1m0, k1m1]
  instanceTypes := #[]
  staticTypes := #[]
  resolved := Array.replicate 30 none
  statics := none }

def pool2 : Array CpInfo := pool [(1, .class_ 2), (0, u "com/example/ratatoskr/ratatoskr/index/IntList"), (0, .methodref 4 5), (0, .class_ 6), (0, .nameAndType 7 8), (0, u "java/lang/Object"), (0, u "<init>"), (0, u "()V"), (0, .class_ 10), (0, u "[I"), (0, .fieldref 1 12), (0, .nameAndType 13 14), (0, u "blocks"), (0, u "[[I"), (0, .fieldref 1 16), (0, .nameAndType 17 18), (0, u "size"), (0, u "I"), (0, .methodref 20 21), (0, .class_ 22), (0, .nameAndType 23 24), (0, u "java/util/Arrays"), (0, u "copyOf"), (0, u "([II)[I"), (12, u "get"), (0, u "(I)I"), (11, u "BLOCK_SHIFT"), (2, u "BLOCK_SIZE"), (1, u "BLOCK_MASK"), (3, u "add"), (0, u "(I)V")] 10

def k2c0 : Code := { maxStack := 5, maxLocals := 1, code := prog_10_method_1_code, exceptionTable := #[], attributes := #[] }
def k2m0 : Method := { name := "<init>", desc := "()V", sig := { parameters := [], returnType := none }, accessFlags := 0, code := some k2c0 }
def k2c1 : Code := { maxStack := 5, maxLocals := 4, code := prog_10_method_2_code, exceptionTable := #[], attributes := #[] }
def k2m1 : Method := { name := "add", desc := "(I)V", sig := { parameters := [.int], returnType := none }, accessFlags := 0, code := some k2c1 }
def k2c2 : Code := { maxStack := 3, maxLocals := 2, code := prog_10_method_3_code, exceptionTable := #[], attributes := #[] }
def k2m2 : Method := { name := "get", desc := "(I)I", sig := { parameters := [.int], returnType := some .int }, accessFlags := 0, code := some k2c2 }
/-- com/example/ratatoskr/ratatoskr/index/IntList -/
def k2 : Class := { plain "com/example/ratatoskr/ratatoskr/index/IntList" (some 0) with
  accessFlags := 48
  interfaces := #[]
  cf := some (fileOf pool2 1 #[] #[{ accessFlags := 0, nameIndex := 7, descriptorIndex := 8, attributes := #[] }, { accessFlags := 0, nameIndex := 59, descriptorIndex := 60, attributes := #[] }, { accessFlags := 0, nameIndex := 37, descriptorIndex := 38, attributes := #[] }] 48 4 #[] #[{ accessFlags := 26, nameIndex := 50, descriptorIndex := 18, attributes := #[] }, { accessFlags := 26, nameIndex := 53, descriptorIndex := 18, attributes := #[] }, { accessFlags := 26, nameIndex := 55, descriptorIndex := 18, attributes := #[] }, { accessFlags := 2, nameIndex := 13, descriptorIndex := 14, attributes := #[] }, { accessFlags := 2, nameIndex := 17, descriptorIndex := 18, attributes := #[] }])
  fields := #[{ name := "BLOCK_SHIFT", type := .int, accessFlags := 26, slot := 0, constantValue := 0 }, { name := "BLOCK_SIZE", type := .int, accessFlags := 26, slot := 1, constantValue := 0 }, { name := "BLOCK_MASK", type := .int, accessFlags := 26, slot := 2, constantValue := 0 }, { name := "blocks", type := (.array (.array .int)), accessFlags := 2, slot := 0, constantValue := 0 }, { name := "size", type := .int, accessFlags := 2, slot := 1, constantValue := 0 }]
  methods := #[k2m0, k2m1, k2m2]
  instanceTypes := #[(.array (.array .int)), .int]
  staticTypes := #[.int, .int, .int]
  resolved := Array.replicate 71 none
  statics := none }

def pool3 : Array CpInfo := pool [(2, .class_ 4), (1, u "java/lang/Object"), (0, u "<init>"), (0, u "()V"), (7, .class_ 16), (1, u "java/util/Arrays"), (57, .class_ 76), (1, u "java/util/Arrays$NaturalOrder"), (36, .class_ 115), (1, u "java/util/Arrays$LegacyMergeSort"), (1, u "Z"), (32, .methodref 151 152), (0, .class_ 153), (0, .nameAndType 154 155), (0, u "java/lang/System"), (0, u "arraycopy"), (0, u "(Ljava/lang/Object;ILjava/lang/Object;II)V"), (146, u "copyOf"), (1, .methodref 305 306), (0, .class_ 307), (0, .nameAndType 308 309), (0, u "java/lang/Math"), (0, u "min"), (0, u "(II)I"), (65, .class_ 376), (0, u "java/util/Arrays$ArrayList"), (68, u "$assertionsDisabled"), (269, u "MIN_ARRAY_SORT_GRAN"), (0, u "I"), (2, u "INSERTIONSORT_THRESHOLD"), (151, u "([II)[I"), (103, .class_ 976), (0, u "java/util/Arrays$ArrayItr")] 52

def k3m0 : Method := { name := "<init>", desc := "()V", sig := { parameters := [], returnType := none }, accessFlags := 2, code := none }
def k3c1 : Code := { maxStack := 6, maxLocals := 3, code := jdk_65_method_123_code, exceptionTable := #[], attributes := #[] }
def k3m1 : Method := { name := "copyOf", desc := "([II)[I", sig := { parameters := [(.array .int), .int], returnType := some (.array .int) }, accessFlags := 9, code := some k3c1 }
/-- java/util/Arrays -/
def k3 : Class := { plain "java/util/Arrays" (some 0) with
  accessFlags := 49
  interfaces := #[]
  cf := some (fileOf pool3 14 #[.nestMembers #[975, 375, 113, 74]] #[{ accessFlags := 2, nameIndex := 5, descriptorIndex := 6, attributes := #[] }, { accessFlags := 9, nameIndex := 302, descriptorIndex := 871, attributes := #[] }] 49 2 #[] #[{ accessFlags := 26, nameIndex := 715, descriptorIndex := 716, attributes := #[] }, { accessFlags := 26, nameIndex := 719, descriptorIndex := 716, attributes := #[] }, { accessFlags := 4120, nameIndex := 445, descriptorIndex := 117, attributes := #[] }])
  fields := #[{ name := "MIN_ARRAY_SORT_GRAN", type := .int, accessFlags := 26, slot := 0, constantValue := 0 }, { name := "INSERTIONSORT_THRESHOLD", type := .int, accessFlags := 26, slot := 1, constantValue := 0 }, { name := "$assertionsDisabled", type := .boolean, accessFlags := 4120, slot := 2, constantValue := 0 }]
  methods := #[k3m0, k3m1]
  instanceTypes := #[]
  staticTypes := #[.int, .int, .boolean]
  resolved := Array.replicate 1029 none
  statics := none }

def pool4 : Array CpInfo := pool [(1, .class_ 2), (0, u "java/lang/Math"), (1, .class_ 6), (1, u "java/lang/Object"), (0, u "<init>"), (0, u "()V"), (89, .class_ 100), (1, u "java/lang/Math$RandomNumberGeneratorHolder"), (71, u "negativeZeroFloatBits"), (0, u "J"), (2, u "negativeZeroDoubleBits"), (24, u "min"), (43, u "$assertionsDisabled"), (0, u "Z"), (88, u "(II)I"), (2, u "twoToTheDoubleScaleDown"), (0, u "D"), (4, u "twoToTheDoubleScaleUp"), (9, u "E"), (3, u "PI"), (2, u "TAU"), (2, u "DEGREES_TO_RADIANS"), (0, u "RADIANS_TO_DEGREES")] 94

def k4m0 : Method := { name := "<init>", desc := "()V", sig := { parameters := [], returnType := none }, accessFlags := 2, code := none }
def k4c1 : Code := { maxStack := 2, maxLocals := 2, code := jdk_29_method_69_code, exceptionTable := #[], attributes := #[] }
def k4m1 : Method := { name := "min", desc := "(II)I", sig := { parameters := [.int, .int], returnType := some .int }, accessFlags := 9, code := some k4c1 }
/-- java/lang/Math -/
def k4 : Class := { plain "java/lang/Math" (some 0) with
  accessFlags := 49
  interfaces := #[]
  cf := some (fileOf pool4 1 #[.nestMembers #[98]] #[{ accessFlags := 2, nameIndex := 7, descriptorIndex := 8, attributes := #[] }, { accessFlags := 9, nameIndex := 201, descriptorIndex := 335, attributes := #[] }] 49 4 #[] #[{ accessFlags := 25, nameIndex := 354, descriptorIndex := 339, attributes := #[] }, { accessFlags := 25, nameIndex := 358, descriptorIndex := 339, attributes := #[] }, { accessFlags := 25, nameIndex := 361, descriptorIndex := 339, attributes := #[] }, { accessFlags := 26, nameIndex := 364, descriptorIndex := 339, attributes := #[] }, { accessFlags := 26, nameIndex := 365, descriptorIndex := 339, attributes := #[] }, { accessFlags := 26, nameIndex := 172, descriptorIndex := 173, attributes := #[] }, { accessFlags := 26, nameIndex := 176, descriptorIndex := 173, attributes := #[] }, { accessFlags := 8, nameIndex := 344, descriptorIndex := 339, attributes := #[] }, { accessFlags := 8, nameIndex := 338, descriptorIndex := 339, attributes := #[] }, { accessFlags := 4120, nameIndex := 245, descriptorIndex := 246, attributes := #[] }])
  fields := #[{ name := "E", type := .double, accessFlags := 25, slot := 0, constantValue := 0 }, { name := "PI", type := .double, accessFlags := 25, slot := 1, constantValue := 0 }, { name := "TAU", type := .double, accessFlags := 25, slot := 2, constantValue := 0 }, { name := "DEGREES_TO_RADIANS", type := .double, accessFlags := 26, slot := 3, constantValue := 0 }, { name := "RADIANS_TO_DEGREES", type := .double, accessFlags := 26, slot := 4, constantValue := 0 }, { name := "negativeZeroFloatBits", type := .long, accessFlags := 26, slot := 5, constantValue := 0 }, { name := "negativeZeroDoubleBits", type := .long, accessFlags := 26, slot := 6, constantValue := 0 }, { name := "twoToTheDoubleScaleUp", type := .double, accessFlags := 8, slot := 7, constantValue := 0 }, { name := "twoToTheDoubleScaleDown", type := .double, accessFlags := 8, slot := 8, constantValue := 0 }, { name := "$assertionsDisabled", type := .boolean, accessFlags := 4120, slot := 9, constantValue := 0 }]
  methods := #[k4m0, k4m1]
  instanceTypes := #[]
  staticTypes := #[.double, .double, .double, .double, .double, .long, .long, .double, .double, .boolean]
  resolved := Array.replicate 460 none
  statics := none }

def pool5 : Array CpInfo := pool [(2, .class_ 4), (1, u "java/lang/Object"), (0, u "<init>"), (0, u "()V"), (1, .class_ 10), (1, u "java/lang/System"), (0, u "allowSecurityManager"), (0, u "I"), (16, u "cons"), (0, u "Ljava/io/Console;"), (77, .class_ 110), (1, u "java/lang/System$CallersHolder"), (43, u "initialErrStream"), (0, u "Ljava/io/PrintStream;"), (19, u "security"), (0, u "Ljava/lang/SecurityManager;"), (31, .class_ 209), (0, u "java/lang/System$1"), (7, u "props"), (0, u "Ljava/util/Properties;"), (2, u "lineSeparator"), (0, u "Ljava/lang/String;"), (96, .class_ 321), (1, u "java/lang/System$LoggerFinder"), (5, .class_ 328), (0, u "java/lang/System$Logger"), (67, u "err"), (2, u "out"), (91, u "notSupportedJnuEncoding"), (15, u "in"), (17, u "initialIn"), (0, u "Ljava/io/InputStream;"), (35, u "bootLayer"), (0, u "Ljava/lang/ModuleLayer;"), (99, .class_ 664), (0, u "java/lang/System$2"), (9, u "NEVER"), (2, u "MAYBE"), (49, u "arraycopy"), (0, u "(Ljava/lang/Object;ILjava/lang/Object;II)V"), (72, .class_ 802), (0, u "java/lang/System$Logger$Level")] 31

def k5m0 : Method := { name := "<init>", desc := "()V", sig := { parameters := [], returnType := none }, accessFlags := 2, code := none }
def k5m1 : Method := { name := "arraycopy", desc := "(Ljava/lang/Object;ILjava/lang/Object;II)V", sig := { parameters := [(.object "java/lang/Object"), .int, (.object "java/lang/Object"), .int, .int], returnType := none }, accessFlags := 265, code := none }
/-- java/lang/System -/
def k5 : Class := { plain "java/lang/System" (some 0) with
  accessFlags := 49
  interfaces := #[]
  cf := some (fileOf pool5 8 #[.nestMembers #[319, 327, 801, 108, 663, 208]] #[{ accessFlags := 2, nameIndex := 5, descriptorIndex := 6, attributes := #[] }, { accessFlags := 265, nameIndex := 727, descriptorIndex := 728, attributes := #[] }] 49 2 #[] #[{ accessFlags := 25, nameIndex := 507, descriptorIndex := 526, attributes := #[] }, { accessFlags := 25, nameIndex := 399, descriptorIndex := 155, attributes := #[] }, { accessFlags := 25, nameIndex := 396, descriptorIndex := 155, attributes := #[] }, { accessFlags := 10, nameIndex := 525, descriptorIndex := 526, attributes := #[] }, { accessFlags := 26, nameIndex := 674, descriptorIndex := 12, attributes := #[] }, { accessFlags := 26, nameIndex := 677, descriptorIndex := 12, attributes := #[] }, { accessFlags := 10, nameIndex := 11, descriptorIndex := 12, attributes := #[] }, { accessFlags := 74, nameIndex := 175, descriptorIndex := 176, attributes := #[] }, { accessFlags := 10, nameIndex := 491, descriptorIndex := 222, attributes := #[] }, { accessFlags := 74, nameIndex := 29, descriptorIndex := 30, attributes := #[] }, { accessFlags := 74, nameIndex := 154, descriptorIndex := 155, attributes := #[] }, { accessFlags := 10, nameIndex := 217, descriptorIndex := 218, attributes := #[] }, { accessFlags := 10, nameIndex := 221, descriptorIndex := 222, attributes := #[] }, { accessFlags := 8, nameIndex := 562, descriptorIndex := 563, attributes := #[] }])
  fields := #[{ name := "in", type := (.object "java/io/InputStream"), accessFlags := 25, slot := 0, constantValue := 0 }, { name := "out", type := (.object "java/io/PrintStream"), accessFlags := 25, slot := 1, constantValue := 0 }, { name := "err", type := (.object "java/io/PrintStream"), accessFlags := 25, slot := 2, constantValue := 0 }, { name := "initialIn", type := (.object "java/io/InputStream"), accessFlags := 10, slot := 3, constantValue := 0 }, { name := "NEVER", type := .int, accessFlags := 26, slot := 4, constantValue := 0 }, { name := "MAYBE", type := .int, accessFlags := 26, slot := 5, constantValue := 0 }, { name := "allowSecurityManager", type := .int, accessFlags := 10, slot := 6, constantValue := 0 }, { name := "security", type := (.object "java/lang/SecurityManager"), accessFlags := 74, slot := 7, constantValue := 0 }, { name := "notSupportedJnuEncoding", type := (.object "java/lang/String"), accessFlags := 10, slot := 8, constantValue := 0 }, { name := "cons", type := (.object "java/io/Console"), accessFlags := 74, slot := 9, constantValue := 0 }, { name := "initialErrStream", type := (.object "java/io/PrintStream"), accessFlags := 74, slot := 10, constantValue := 0 }, { name := "props", type := (.object "java/util/Properties"), accessFlags := 10, slot := 11, constantValue := 0 }, { name := "lineSeparator", type := (.object "java/lang/String"), accessFlags := 10, slot := 12, constantValue := 0 }, { name := "bootLayer", type := (.object "java/lang/ModuleLayer"), accessFlags := 8, slot := 13, constantValue := 0 }]
  methods := #[k5m0, k5m1]
  instanceTypes := #[]
  staticTypes := #[(.object "java/io/InputStream"), (.object "java/io/PrintStream"), (.object "java/io/PrintStream"), (.object "java/io/InputStream"), .int, .int, .int, (.object "java/lang/SecurityManager"), (.object "java/lang/String"), (.object "java/io/Console"), (.object "java/io/PrintStream"), (.object "java/util/Properties"), (.object "java/lang/String"), (.object "java/lang/ModuleLayer")]
  resolved := Array.replicate 834 none
  statics := none }

def pool6 : Array CpInfo := pool [(1, u "java/lang/Cloneable"), (0, .class_ 1), (0, u "java/lang/Object"), (0, .class_ 3)] 3

/-- java/lang/Cloneable -/
def k6 : Class := { plain "java/lang/Cloneable" (some 0) with
  accessFlags := 1537
  interfaces := #[]
  cf := some (fileOf pool6 2 #[] #[] 1537 4 #[] #[])
  fields := #[]
  methods := #[]
  instanceTypes := #[]
  staticTypes := #[]
  resolved := Array.replicate 8 none
  statics := none }

def pool7 : Array CpInfo := pool [(1, u "java/io/Serializable"), (0, .class_ 1), (0, u "java/lang/Object"), (0, .class_ 3)] 3

/-- java/io/Serializable -/
def k7 : Class := { plain "java/io/Serializable" (some 0) with
  accessFlags := 1537
  interfaces := #[]
  cf := some (fileOf pool7 2 #[] #[] 1537 4 #[] #[])
  fields := #[]
  methods := #[]
  instanceTypes := #[]
  staticTypes := #[]
  resolved := Array.replicate 8 none
  statics := none }

/-- the primitive byte -/
def k8 : Class := { plain "byte" none with kind := .primitive 'B', accessFlags := 0x411 }
/-- [B -/
def k9 : Class := { plain "[B" (some 0) with kind := .array 8 .byte, interfaces := #[6, 7], accessFlags := 1041 }

/-- the primitive int -/
def k10 : Class := { plain "int" none with kind := .primitive 'I', accessFlags := 0x411 }
/-- [I -/
def k11 : Class := { plain "[I" (some 0) with kind := .array 10 .int, interfaces := #[6, 7], accessFlags := 1041 }

/-- [[I -/
def k12 : Class := { plain "[[I" (some 0) with kind := .array 11 (.array .int), interfaces := #[6, 7], accessFlags := 1041 }
def heap : Heap := #[]
def classes : Array Class := #[k0, k1, k2, k3, k4, k5, k6, k7, k8, k9, k10, k11, k12]
def interned : List (Array UInt16 × Addr) := []
def slotsUsed : Nat := 0
def theMethod : MethodId := ⟨1, 1⟩
def args0 : Array Value := #[.int 2, .int 5, .int 1, .int 1, .int 1, .int 9]
def aboutOver (below : List Frame) : State where
  vm := { classes := classes, interned := interned.toArray }
  heap := heap
  slotsUsed := slotsUsed
  threads := #[{ frames := .invoking theMethod args0 :: below }]
def below0 : List Frame := [.native { method := ⟨0, 0⟩, args := #[] }]
def about1 : State := aboutOver below0
def p0 : Program := .bare "" "" ""
def e0 : Env := launch0.env 0 0 0
theorem w_frames : about1.frames = Frame.invoking theMethod args0 :: below0 := rfl
set_option maxRecDepth 65536 in
theorem w_args : argsFit about1.vm theMethod args0 = true := by decide +kernel
set_option maxRecDepth 65536 in
theorem w_heap : heapFits about1 = true := by decide +kernel
set_option maxRecDepth 65536 in
theorem w_runnable : about1.curStatus? = some .runnable := by decide +kernel
set_option maxRecDepth 65536 in
theorem w_alone : about1.alone = true := by decide +kernel
set_option maxRecDepth 65536 in
theorem w_named : about1.methodNamed? x = some theMethod := by decide +kernel
set_option maxRecDepth 65536 in
theorem w_hears : about1.hears theMethod below0 = true := by decide +kernel
set_option maxRecDepth 65536 in
theorem w_ripe : about1.ripe theMethod args0 below0 = true := by decide +kernel
theorem w_running : about1.status = .running := rfl
set_option maxRecDepth 65536 in
theorem w_room : about1.hasRoom e0.platform room_1 = true :=
  launch0.hasRoom_least _ room_1 (by decide +kernel) (by decide +kernel) (by decide +kernel) (by decide +kernel) (by decide +kernel) (by decide +kernel)
theorem allAtoms_all (ts : List Jvm.Cond) (a : Array Jvm.Value) (st : Jvm.State) : (allAtoms ts).before a st = ts.all (fun c => c.before a st) := by
  induction ts with
  | nil => rfl
  | cons c t ih =>
    show (Jvm.Cond.and c (allAtoms t)).before a st = _
    rw [Jvm.Cond.before_and, ih, List.all_cons]
def words1 : List Jvm.Cond := Jvm.Cond.code x code maxLocals ret :: tables_1
/-- a 'code' word, met by the world's own term for the bytes: nothing is compared byte by byte -/
theorem code_word {y : MethodName} {bytes : ByteArray} {mx : Nat} {rt : Option FieldType} {a : Array Value} {s : State} {m : MethodId} {meth : Method} {c : Code} (h1 : s.methodNamed? y = some m) (h2 : s.vm.method? m = some meth) (h3 : meth.code = some c) (h4 : c.code = bytes)
    (h5 : (c.maxLocals == mx && c.exceptionTable.isEmpty && decide (c.maxStack ≤ mostOperands) && decide (meth.sig.returnType = rt) && !meth.locks && decide (parseMethodDescriptor y.desc = some meth.sig)) = true) : (Jvm.Cond.code y bytes mx rt).before a s = true := by
  simp only [Bool.and_eq_true, beq_iff_eq, Bool.not_eq_true', decide_eq_true_eq] at h5
  obtain ⟨⟨⟨⟨⟨g1, g2⟩, g3⟩, g4⟩, g5⟩, g6⟩ := h5
  simp [Cond.before, Cond.holds, Cond.value, h1, h2, h3, h4, g1, g2, g3, g4, g5, g6]
def isCode : Jvm.Cond → Bool
  | .code _ _ _ _ => true
  | _ => false
theorem all_split {L : List Jvm.Cond} {P : Jvm.Cond → Bool} (h1 : L.all (fun c => isCode c || P c) = true) (h2 : ∀ c ∈ L.filter isCode, P c = true) : L.all P = true := by
  refine List.all_eq_true.mpr fun c hc => ?_
  have h := List.all_eq_true.mp h1 c hc
  rcases Bool.eq_false_or_eq_true (isCode c) with hi | hi
  · exact h2 c (List.mem_filter.mpr ⟨hc, hi⟩)
  · simpa [hi] using h
set_option maxRecDepth 65536 in
theorem w_c0 : (Jvm.Cond.code x code maxLocals ret).before args0 about1 = true := code_word (m := ⟨1, 1⟩) (meth := k1m1) (c := k1c1) (by decide +kernel) rfl rfl rfl (by decide +kernel)
set_option maxRecDepth 65536 in
theorem w_c1 : (Jvm.Cond.code ({ cls := "com/example/ratatoskr/ratatoskr/index/IntList", name := "<init>", desc := "()V" } : Jvm.MethodName) prog_10_method_1_code (1 : Nat) (Option.none : Option Jvm.ClassFile.FieldType)).before args0 about1 = true := code_word (m := ⟨2, 0⟩) (meth := k2m0) (c := k2c0) (by decide +kernel) rfl rfl rfl (by decide +kernel)
set_option maxRecDepth 65536 in
theorem w_c2 : (Jvm.Cond.code ({ cls := "java/lang/Object", name := "<init>", desc := "()V" } : Jvm.MethodName) object_method_1_code (1 : Nat) (Option.none : Option Jvm.ClassFile.FieldType)).before args0 about1 = true := code_word (m := ⟨0, 0⟩) (meth := k0m0) (c := k0c0) (by decide +kernel) rfl rfl rfl (by decide +kernel)
set_option maxRecDepth 65536 in
theorem w_c3 : (Jvm.Cond.code ({ cls := "com/example/ratatoskr/ratatoskr/index/IntList", name := "add", desc := "(I)V" } : Jvm.MethodName) prog_10_method_2_code (4 : Nat) (Option.none : Option Jvm.ClassFile.FieldType)).before args0 about1 = true := code_word (m := ⟨2, 1⟩) (meth := k2m1) (c := k2c1) (by decide +kernel) rfl rfl rfl (by decide +kernel)
set_option maxRecDepth 65536 in
theorem w_c4 : (Jvm.Cond.code ({ cls := "java/util/Arrays", name := "copyOf", desc := "([II)[I" } : Jvm.MethodName) jdk_65_method_123_code (3 : Nat) (Option.some (Jvm.ClassFile.FieldType.array Jvm.ClassFile.FieldType.int))).before args0 about1 = true := code_word (m := ⟨3, 1⟩) (meth := k3m1) (c := k3c1) (by decide +kernel) rfl rfl rfl (by decide +kernel)
set_option maxRecDepth 65536 in
theorem w_c5 : (Jvm.Cond.code ({ cls := "java/lang/Math", name := "min", desc := "(II)I" } : Jvm.MethodName) jdk_29_method_69_code (2 : Nat) (Option.some Jvm.ClassFile.FieldType.int)).before args0 about1 = true := code_word (m := ⟨4, 1⟩) (meth := k4m1) (c := k4c1) (by decide +kernel) rfl rfl rfl (by decide +kernel)
set_option maxRecDepth 65536 in
theorem w_c6 : (Jvm.Cond.code ({ cls := "com/example/ratatoskr/ratatoskr/index/IntList", name := "get", desc := "(I)I" } : Jvm.MethodName) prog_10_method_3_code (2 : Nat) (Option.some Jvm.ClassFile.FieldType.int)).before args0 about1 = true := code_word (m := ⟨2, 2⟩) (meth := k2m2) (c := k2c2) (by decide +kernel) rfl rfl rfl (by decide +kernel)
def codes1 : List Jvm.Cond := [Jvm.Cond.code x code maxLocals ret, Jvm.Cond.code ({ cls := "com/example/ratatoskr/ratatoskr/index/IntList", name := "<init>", desc := "()V" } : Jvm.MethodName) prog_10_method_1_code (1 : Nat) (Option.none : Option Jvm.ClassFile.FieldType), Jvm.Cond.code ({ cls := "java/lang/Object", name := "<init>", desc := "()V" } : Jvm.MethodName) object_method_1_code (1 : Nat) (Option.none : Option Jvm.ClassFile.FieldType), Jvm.Cond.code ({ cls := "com/example/ratatoskr/ratatoskr/index/IntList", name := "add", desc := "(I)V" } : Jvm.MethodName) prog_10_method_2_code (4 : Nat) (Option.none : Option Jvm.ClassFile.FieldType), Jvm.Cond.code ({ cls := "java/util/Arrays", name := "copyOf", desc := "([II)[I" } : Jvm.MethodName) jdk_65_method_123_code (3 : Nat) (Option.some (Jvm.ClassFile.FieldType.array Jvm.ClassFile.FieldType.int)), Jvm.Cond.code ({ cls := "java/lang/Math", name := "min", desc := "(II)I" } : Jvm.MethodName) jdk_29_method_69_code (2 : Nat) (Option.some Jvm.ClassFile.FieldType.int), Jvm.Cond.code ({ cls := "com/example/ratatoskr/ratatoskr/index/IntList", name := "get", desc := "(I)I" } : Jvm.MethodName) prog_10_method_3_code (2 : Nat) (Option.some Jvm.ClassFile.FieldType.int)]
set_option maxRecDepth 65536 in
theorem codes_eq : words1.filter isCode = codes1 := rfl
theorem w_codes : ∀ c ∈ words1.filter isCode, c.before args0 about1 = true := by
  rw [codes_eq]
  intro c hc
  simp only [codes1, List.mem_cons, List.not_mem_nil, or_false] at hc
  rcases hc with rfl | rfl | rfl | rfl | rfl | rfl | rfl
  · exact w_c0
  · exact w_c1
  · exact w_c2
  · exact w_c3
  · exact w_c4
  · exact w_c5
  · exact w_c6
set_option maxRecDepth 65536 in
theorem w_t1 : (words1.take 24).all (fun c => isCode c || c.before args0 about1) = true := by decide +kernel
set_option maxRecDepth 65536 in
theorem w_t2 : (words1.drop 24).all (fun c => isCode c || c.before args0 about1) = true := by decide +kernel
theorem w_tables : (allAtoms (Jvm.Cond.code x code maxLocals ret :: tables_1)).before args0 about1 = true := by
  rw [allAtoms_all]
  show words1.all (fun c => c.before args0 about1) = true
  refine all_split ?_ w_codes
  rw [← List.take_append_drop 24 words1, List.all_append, w_t1, w_t2]
  rfl
set_option maxRecDepth 65536 in
theorem w_case : (Jvm.Cond.and given_1 narrow_1).before args0 about1 = true := by decide +kernel
theorem w_applies : (headSpec (Jvm.Cond.code x code maxLocals ret :: tables_1) room_1).applies x e0.platform about1 = true :=
  (Spec.applies_iff w_frames).mpr ⟨w_running, w_runnable, w_alone, w_named, w_hears, w_ripe, w_room, w_tables⟩
theorem atStart : AtStart classFile x code maxLocals ret World_1 tables_1 room_1 Calls_1 rest_1 Pre_1 launch0 p0 e0 about1 theMethod args0 below0 :=
  ⟨lists_1, trivial, launch0.admits_env _ _ _, launch0.least_env, fairChoices_fair.cas, fairChoices_fair.clock, w_frames, w_args, w_heap, w_applies, trivial, trivial, w_case⟩
end start1
theorem witness_1 : WitnessClaimed_1 := ⟨start1.p0, start1.e0, start1.about1, start1.theMethod, start1.args0, start1.below0, start1.atStart⟩
end Jvm.Pilot.@@N@@
