import JvmDerived
import JvmDerived.Pilot.@@N@@Statement
import JvmDerived.Pilot.@@N@@Code
set_option linter.unusedVariables false
set_option linter.unusedSimpArgs false
namespace Jvm.Pilot.@@N@@
open Jvm Jvm.ClassFile Sem Op Lib Jvm.Free Jvm.Stand Jvm.LawKit Jvm.RoadKit Bundle Jvm.Pilot.@@N@@.Jvm.D
/-! THE WALK, SAID FORWARD: `G w Q h k n pc Ls st` says: from every point of the walk `w` whose heap is h, with k cells and n slots made, standing at pc with the locals Ls and the stack st, the run ends in a return that meets Q. One law a step carries G from the next point back to this one. -/
abbrev Wk := Program × Launch × Env × Room × State × MethodId × Array Value × List Frame × Method × Code × Nat
abbrev Wk.p (w : Wk) : Program := w.1
abbrev Wk.l (w : Wk) : Launch := w.2.1
abbrev Wk.e (w : Wk) : Env := w.2.2.1
abbrev Wk.R (w : Wk) : Room := w.2.2.2.1
abbrev Wk.s (w : Wk) : State := w.2.2.2.2.1
abbrev Wk.m (w : Wk) : MethodId := w.2.2.2.2.2.1
abbrev Wk.args (w : Wk) : Array Value := w.2.2.2.2.2.2.1
abbrev Wk.below (w : Wk) : List Frame := w.2.2.2.2.2.2.2.1
abbrev Wk.meth (w : Wk) : Method := w.2.2.2.2.2.2.2.2.1
abbrev Wk.c (w : Wk) : Code := w.2.2.2.2.2.2.2.2.2.1
abbrev Wk.n0 (w : Wk) : Nat := w.2.2.2.2.2.2.2.2.2.2
def Cx (w : Wk) (l : Launch) (Z : State) (own : String) (bytes : ByteArray) (mx : Nat) (rt : Option FieldType) (nm : String) (rm : Room) (n0 : Nat) : Prop :=
  w.l = l ∧ w.p.tables.exec = Jvm.exec ∧ Z.Warmed39 w.s.vm ∧ w.c.code = bytes ∧ w.c.maxLocals = mx ∧ w.s.vm.findClass own = some w.m.cls ∧ w.meth.sig.returnType = rt ∧ w.meth.locks = false ∧ w.meth.name = nm ∧ w.R = rm ∧ w.n0 = n0
def Ends (w : Wk) (Q : Option Value → Heap → Prop) (A : State) : Prop :=
  ∃ s₂ o, Steps w.p.tables w.e w.below A s₂ ∧ s₂.status = .running ∧ Ended s₂ w.below o ∧ ∃ v L, o = .returned v ∧ (Q v s₂.heap ∧ Fr w.n0 L) ∧ FrameEnd w.s o s₂ L w.R.cells w.R.slots
def G (w : Wk) (Q : Option Value → Heap → Prop) (h : Heap) (k n pc : Nat) (Ls : Array Slot) (st : List Value) : Prop :=
  ∀ (T : State) (locs : List Loc), Stand w.p w.l w.e w.R w.s w.m w.args w.below w.meth w.c T locs k n → T.heap = h → Fr w.n0 locs → Ends w Q (T.setTop (mkF w.m pc Ls st))
def Con (l : Launch) (Z : State) (y : MethodName) (bytes : ByteArray) (mx : Nat) (rt : Option FieldType) (rm : Room) (as : Array Value) (h : Heap) (n0 : Nat) (Q : Option Value → Heap → Prop) : Prop :=
  ∀ ws, MetFree l y (head1 (Jvm.Cond.code y bytes mx rt :: ws) rm) (fun a U => a = as ∧ Z.Warmed39 U.vm ∧ U.heap = h) (fun _ _ _ _ _ => True) (fun _ U o U' => ∃ v L, o = .returned v ∧ (Q v U'.heap ∧ Fr n0 L) ∧ FrameEnd U o U' L rm.cells rm.slots)
def psh (v : Option Value) (st : List Value) : List Value := match v with | none => st | some x => x :: st
theorem psh_eq (v : Option Value) (st : List Value) : v.toList ++ st = psh v st := by cases v <;> rfl
section Gs
variable {w : Wk} {l : Launch} {Z : State} {own : String} {bytes : ByteArray} {mx : Nat} {rt : Option FieldType} {nm : String} {rm : Room} {n0 : Nat} {Q : Option Value → Heap → Prop} {h : Heap} {k n pc pc' : Nat} {Ls Ls' : Array Slot} {st rest : List Value} {a0 : Array Value} {t : FieldType} {k' n' : Nat}
theorem Con.mk {y : MethodName} {as : Array Value} (hp : plainFor y = true) (hef : ∀ m, entryFrame m as mx = mkF m 0 Ls []) (body : ∀ w : Wk, Cx w l Z y.cls bytes mx rt y.name rm n0 → G w Q h 0 0 0 Ls []) : Con l Z y bytes mx rt rm as h n0 Q := by
  intro ws
  refine MetFree.of_bodySF hp hisR ?_
  intro p e s m args below meth c s₁ Bd hml0 hP hK
  obtain ⟨rfl, hZ, hh⟩ := hP
  have X0 : Stand p l e rm s m args below meth c s₁ [] 0 0 := Stand.of_body Bd
  have e0 : s₁.heap = h := by rw [← hh, Bd.state]; rfl
  obtain ⟨s₂, o, h1, h2, h3, h4⟩ := body (p, l, e, rm, s, m, args, below, meth, c, n0) ⟨rfl, Bd.exec, hZ, Bd.bytes, hml0, findClass_of_methodNamed Bd.named, Bd.returns, Bd.notSynchronized, (name_of_methodNamed Bd.named Bd.method).1, rfl, rfl⟩ s₁ [] X0 e0 (Fr.nil n0)
  exact ⟨s₂, o, castTop (hef m) h1, h2, h3, h4⟩
theorem Cx.ex (C : Cx w l Z own bytes mx rt nm rm n0) : w.p.tables.exec = Jvm.exec := C.2.1
theorem Cx.hZ (C : Cx w l Z own bytes mx rt nm rm n0) : Z.Warmed39 w.s.vm := C.2.2.1
theorem Cx.dec (C : Cx w l Z own bytes mx rt nm rm n0) {r : Except DecodeError (Instr × Nat)} (hd : decode bytes pc = r) : decode w.c.code pc = r := hb C.2.2.2.1 hd
theorem Cx.ow (C : Cx w l Z own bytes mx rt nm rm n0) : w.s.vm.findClass own = some w.m.cls := C.2.2.2.2.2.1
theorem Cx.ml (C : Cx w l Z own bytes mx rt nm rm n0) : w.c.maxLocals = mx := C.2.2.2.2.1
theorem Cx.ret (C : Cx w l Z own bytes mx rt nm rm n0) : w.meth.sig.returnType = rt := C.2.2.2.2.2.2.1
theorem Cx.lk (C : Cx w l Z own bytes mx rt nm rm n0) : w.meth.locks = false := C.2.2.2.2.2.2.2.1
theorem Cx.mn (C : Cx w l Z own bytes mx rt nm rm n0) : w.meth.name = nm := C.2.2.2.2.2.2.2.2.1
theorem Cx.ro (C : Cx w l Z own bytes mx rt nm rm n0) : w.R = rm := C.2.2.2.2.2.2.2.2.2.1
theorem Cx.nn (C : Cx w l Z own bytes mx rt nm rm n0) : w.n0 = n0 := C.2.2.2.2.2.2.2.2.2.2
theorem G.adv (st' : ∀ T locs, Stand w.p w.l w.e w.R w.s w.m w.args w.below w.meth w.c T locs k n → T.heap = h → ∀ t, Steps w.p.tables w.e w.below (T.setTop (mkF w.m pc' Ls' rest)) t → Steps w.p.tables w.e w.below (T.setTop (mkF w.m pc Ls st)) t) (g : G w Q h k n pc' Ls' rest) : G w Q h k n pc Ls st :=
  fun T locs X eT N => let ⟨s₂, o, h1, h2⟩ := g T locs X eT N; ⟨s₂, o, st' T locs X eT _ h1, h2⟩
theorem G.to {T T' : State} {locs' : List Loc} {h' : Heap} {k' n' : Nat} (X' : Stand w.p w.l w.e w.R w.s w.m w.args w.below w.meth w.c T' locs' k' n') (eT : T'.heap = h') (N : Fr w.n0 locs') (s' : ∀ t, Steps w.p.tables w.e w.below (T'.setTop (mkF w.m pc' Ls' rest)) t → Steps w.p.tables w.e w.below (T.setTop (mkF w.m pc Ls st)) t) (g : G w Q h' k' n' pc' Ls' rest) : Ends w Q (T.setTop (mkF w.m pc Ls st)) :=
  let ⟨s₂, o, h1, h2⟩ := g T' locs' X' eT N; ⟨s₂, o, s' _ h1, h2⟩
theorem G.more (hk : k ≤ k') (hn : n ≤ n') (g : G w Q h k' n' pc Ls st) : G w Q h k n pc Ls st := fun T locs X eT N => g T locs (X.more hk hn) eT N
/-! plain steps -/
theorem g_aloadN (C : Cx w l Z own bytes mx rt nm rm n0) {i : Fin 4} {v : Value} (hd : decode bytes pc = .ok (.aload_n i, 1)) (hl : Ls[i.val]? = some (.val v)) (hv : v.isRef = true) (hp : pc + 1 = pc') (g : G w Q h k n pc' Ls (v :: st)) : G w Q h k n pc Ls st := by
  subst hp; exact g.adv fun T locs X _ t r => XS.aloadN X.here C.ex rfl (C.dec hd) hl hv r
theorem g_aload (C : Cx w l Z own bytes mx rt nm rm n0) {i : Nat} {v : Value} (hd : decode bytes pc = .ok (.aload i, 2)) (hl : Ls[i]? = some (.val v)) (hv : v.isRef = true) (hp : pc + 2 = pc') (g : G w Q h k n pc' Ls (v :: st)) : G w Q h k n pc Ls st := by
  subst hp; exact g.adv fun T locs X _ t r => XS.aload X.here C.ex rfl (C.dec hd) hl hv r
theorem g_iloadN (C : Cx w l Z own bytes mx rt nm rm n0) {i : Fin 4} {v : Int32} (hd : decode bytes pc = .ok (.iload_n i, 1)) (hl : Ls[i.val]? = some (.val (.int v))) (hp : pc + 1 = pc') (g : G w Q h k n pc' Ls (.int v :: st)) : G w Q h k n pc Ls st := by
  subst hp; exact g.adv fun T locs X _ t r => XS.iloadN X.here C.ex rfl (C.dec hd) hl r
theorem g_iload (C : Cx w l Z own bytes mx rt nm rm n0) {i : Nat} {v : Int32} (hd : decode bytes pc = .ok (.iload i, 2)) (hl : Ls[i]? = some (.val (.int v))) (hp : pc + 2 = pc') (g : G w Q h k n pc' Ls (.int v :: st)) : G w Q h k n pc Ls st := by
  subst hp; exact g.adv fun T locs X _ t r => XS.iload X.here C.ex rfl (C.dec hd) hl r
theorem g_lloadN (C : Cx w l Z own bytes mx rt nm rm n0) {i : Fin 4} {v : Int64} (hd : decode bytes pc = .ok (.lload_n i, 1)) (hl : Ls[i.val]? = some (.val (.long v))) (hp : pc + 1 = pc') (g : G w Q h k n pc' Ls (.long v :: st)) : G w Q h k n pc Ls st := by
  subst hp; exact g.adv fun T locs X _ t r => XS.lloadN X.here C.ex rfl (C.dec hd) hl r
theorem g_lload (C : Cx w l Z own bytes mx rt nm rm n0) {i : Nat} {v : Int64} (hd : decode bytes pc = .ok (.lload i, 2)) (hl : Ls[i]? = some (.val (.long v))) (hp : pc + 2 = pc') (g : G w Q h k n pc' Ls (.long v :: st)) : G w Q h k n pc Ls st := by
  subst hp; exact g.adv fun T locs X _ t r => XS.lload X.here C.ex rfl (C.dec hd) hl r
theorem g_istoreN (C : Cx w l Z own bytes mx rt nm rm n0) {i : Fin 4} {x : Int32} (hd : decode bytes pc = .ok (.istore_n i, 1)) (hs : st = .int x :: rest) (hl : storeLocals Ls i.val (.int x) = some Ls') (hp : pc + 1 = pc') (g : G w Q h k n pc' Ls' rest) : G w Q h k n pc Ls st := by
  subst hp; exact g.adv fun T locs X _ t r => XS.istoreN X.here C.ex rfl (C.dec hd) hs hl r
theorem g_istore (C : Cx w l Z own bytes mx rt nm rm n0) {i : Nat} {x : Int32} (hd : decode bytes pc = .ok (.istore i, 2)) (hs : st = .int x :: rest) (hl : storeLocals Ls i (.int x) = some Ls') (hp : pc + 2 = pc') (g : G w Q h k n pc' Ls' rest) : G w Q h k n pc Ls st := by
  subst hp; exact g.adv fun T locs X _ t r => XS.istore X.here C.ex rfl (C.dec hd) hs hl r
theorem g_lstoreN (C : Cx w l Z own bytes mx rt nm rm n0) {i : Fin 4} {x : Int64} (hd : decode bytes pc = .ok (.lstore_n i, 1)) (hs : st = .long x :: rest) (hl : storeLocals Ls i.val (.long x) = some Ls') (hp : pc + 1 = pc') (g : G w Q h k n pc' Ls' rest) : G w Q h k n pc Ls st := by
  subst hp; exact g.adv fun T locs X _ t r => XS.lstoreN X.here C.ex rfl (C.dec hd) hs hl r
theorem g_lstore (C : Cx w l Z own bytes mx rt nm rm n0) {i : Nat} {x : Int64} (hd : decode bytes pc = .ok (.lstore i, 2)) (hs : st = .long x :: rest) (hl : storeLocals Ls i (.long x) = some Ls') (hp : pc + 2 = pc') (g : G w Q h k n pc' Ls' rest) : G w Q h k n pc Ls st := by
  subst hp; exact g.adv fun T locs X _ t r => XS.lstore X.here C.ex rfl (C.dec hd) hs hl r
theorem g_astoreN (C : Cx w l Z own bytes mx rt nm rm n0) {i : Fin 4} {x : Value} (hd : decode bytes pc = .ok (.astore_n i, 1)) (hs : st = x :: rest) (hv : x.isRef = true) (hl : storeLocals Ls i.val x = some Ls') (hp : pc + 1 = pc') (g : G w Q h k n pc' Ls' rest) : G w Q h k n pc Ls st := by
  subst hp; exact g.adv fun T locs X _ t r => XS.astoreN X.here C.ex rfl (C.dec hd) hs hv hl r
theorem g_astore (C : Cx w l Z own bytes mx rt nm rm n0) {i : Nat} {x : Value} (hd : decode bytes pc = .ok (.astore i, 2)) (hs : st = x :: rest) (hv : x.isRef = true) (hl : storeLocals Ls i x = some Ls') (hp : pc + 2 = pc') (g : G w Q h k n pc' Ls' rest) : G w Q h k n pc Ls st := by
  subst hp; exact g.adv fun T locs X _ t r => XS.astore X.here C.ex rfl (C.dec hd) hs hv hl r
theorem g_iinc (C : Cx w l Z own bytes mx rt nm rm n0) {i : Nat} {cst : Int} {x : Int32} (hd : decode bytes pc = .ok (.iinc i cst, 3)) (hl : Ls[i]? = some (.val (.int x))) (hl' : storeLocals Ls i (.int (x + Int32.ofInt cst)) = some Ls') (hp : pc + 3 = pc') (g : G w Q h k n pc' Ls' st) : G w Q h k n pc Ls st := by
  subst hp; exact g.adv fun T locs X _ t r => XS.iinc X.here C.ex rfl (C.dec hd) hl hl' r
theorem g_iconst (C : Cx w l Z own bytes mx rt nm rm n0) {i : Int} {v : Int32} (hd : decode bytes pc = .ok (.iconst i, 1)) (hv : Int32.ofInt i = v) (hp : pc + 1 = pc') (g : G w Q h k n pc' Ls (.int v :: st)) : G w Q h k n pc Ls st := by
  subst hp hv; exact g.adv fun T locs X _ t r => XS.iconst X.here C.ex rfl (C.dec hd) r
theorem g_bipush (C : Cx w l Z own bytes mx rt nm rm n0) {i : Int} {v : Int32} (hd : decode bytes pc = .ok (.bipush i, 2)) (hv : (Int8.ofInt i).toInt32 = v) (hp : pc + 2 = pc') (g : G w Q h k n pc' Ls (.int v :: st)) : G w Q h k n pc Ls st := by
  subst hp hv; exact g.adv fun T locs X _ t r => XS.bipush X.here C.ex rfl (C.dec hd) r
theorem g_sipush (C : Cx w l Z own bytes mx rt nm rm n0) {i : Int} {v : Int32} (hd : decode bytes pc = .ok (.sipush i, 3)) (hv : (Int16.ofInt i).toInt32 = v) (hp : pc + 3 = pc') (g : G w Q h k n pc' Ls (.int v :: st)) : G w Q h k n pc Ls st := by
  subst hp hv; exact g.adv fun T locs X _ t r => XS.sipush X.here C.ex rfl (C.dec hd) r
theorem g_lconst (C : Cx w l Z own bytes mx rt nm rm n0) {i : Fin 2} {v : Int64} (hd : decode bytes pc = .ok (.lconst i, 1)) (hv : Int64.ofNat i.val = v) (hp : pc + 1 = pc') (g : G w Q h k n pc' Ls (.long v :: st)) : G w Q h k n pc Ls st := by
  subst hp hv; exact g.adv fun T locs X _ t r => XS.lconst X.here C.ex rfl (C.dec hd) r
theorem g_aconstNull (C : Cx w l Z own bytes mx rt nm rm n0) (hd : decode bytes pc = .ok (.aconst_null, 1)) (hp : pc + 1 = pc') (g : G w Q h k n pc' Ls (.null :: st)) : G w Q h k n pc Ls st := by
  subst hp; exact g.adv fun T locs X _ t r => XS.aconstNull X.here C.ex rfl (C.dec hd) r
theorem g_ldcInt (C : Cx w l Z own bytes mx rt nm rm n0) {i : Nat} {v : Int32} (hw : (Jvm.Cond.constant own i v).before a0 Z = true) (hd : decode bytes pc = .ok (.ldc i, 2)) (hp : pc + 2 = pc') (g : G w Q h k n pc' Ls (.int v :: st)) : G w Q h k n pc Ls st := by
  subst hp; exact g.adv fun T locs X _ t r => X.ldcInt C.ex C.ow (mvT C.hZ hw) (g := mkF w.m pc Ls st) rfl (C.dec hd) t r
theorem g_ldc2Long (C : Cx w l Z own bytes mx rt nm rm n0) {i : Nat} {v : Int64} (hw : (Jvm.Cond.constantLong own i v).before a0 Z = true) (hd : decode bytes pc = .ok (.ldc2_w i, 3)) (hp : pc + 3 = pc') (g : G w Q h k n pc' Ls (.long v :: st)) : G w Q h k n pc Ls st := by
  subst hp; exact g.adv fun T locs X _ t r => X.ldc2Long C.ex C.ow (mvT C.hZ hw) (g := mkF w.m pc Ls st) rfl (C.dec hd) t r
theorem g_iadd (C : Cx w l Z own bytes mx rt nm rm n0) {x y : Int32} (hd : decode bytes pc = .ok (.iadd, 1)) (hs : st = .int y :: .int x :: rest) (hp : pc + 1 = pc') (g : G w Q h k n pc' Ls (.int (x + y) :: rest)) : G w Q h k n pc Ls st := by
  subst hp; exact g.adv fun T locs X _ t r => XS.iadd X.here C.ex rfl (C.dec hd) hs r
theorem g_isub (C : Cx w l Z own bytes mx rt nm rm n0) {x y : Int32} (hd : decode bytes pc = .ok (.isub, 1)) (hs : st = .int y :: .int x :: rest) (hp : pc + 1 = pc') (g : G w Q h k n pc' Ls (.int (x - y) :: rest)) : G w Q h k n pc Ls st := by
  subst hp; exact g.adv fun T locs X _ t r => XS.isub X.here C.ex rfl (C.dec hd) hs r
theorem g_imul (C : Cx w l Z own bytes mx rt nm rm n0) {x y : Int32} (hd : decode bytes pc = .ok (.imul, 1)) (hs : st = .int y :: .int x :: rest) (hp : pc + 1 = pc') (g : G w Q h k n pc' Ls (.int (x * y) :: rest)) : G w Q h k n pc Ls st := by
  subst hp; exact g.adv fun T locs X _ t r => XS.imul X.here C.ex rfl (C.dec hd) hs r
theorem g_iand (C : Cx w l Z own bytes mx rt nm rm n0) {x y : Int32} (hd : decode bytes pc = .ok (.iand, 1)) (hs : st = .int y :: .int x :: rest) (hp : pc + 1 = pc') (g : G w Q h k n pc' Ls (.int (x &&& y) :: rest)) : G w Q h k n pc Ls st := by
  subst hp; exact g.adv fun T locs X _ t r => XS.iand X.here C.ex rfl (C.dec hd) hs r
theorem g_ior (C : Cx w l Z own bytes mx rt nm rm n0) {x y : Int32} (hd : decode bytes pc = .ok (.ior, 1)) (hs : st = .int y :: .int x :: rest) (hp : pc + 1 = pc') (g : G w Q h k n pc' Ls (.int (x ||| y) :: rest)) : G w Q h k n pc Ls st := by
  subst hp; exact g.adv fun T locs X _ t r => XS.ior X.here C.ex rfl (C.dec hd) hs r
theorem g_ixor (C : Cx w l Z own bytes mx rt nm rm n0) {x y : Int32} (hd : decode bytes pc = .ok (.ixor, 1)) (hs : st = .int y :: .int x :: rest) (hp : pc + 1 = pc') (g : G w Q h k n pc' Ls (.int (x ^^^ y) :: rest)) : G w Q h k n pc Ls st := by
  subst hp; exact g.adv fun T locs X _ t r => XS.ixor X.here C.ex rfl (C.dec hd) hs r
theorem g_ladd (C : Cx w l Z own bytes mx rt nm rm n0) {x y : Int64} (hd : decode bytes pc = .ok (.ladd, 1)) (hs : st = .long y :: .long x :: rest) (hp : pc + 1 = pc') (g : G w Q h k n pc' Ls (.long (x + y) :: rest)) : G w Q h k n pc Ls st := by
  subst hp; exact g.adv fun T locs X _ t r => XS.ladd X.here C.ex rfl (C.dec hd) hs r
theorem g_lsub (C : Cx w l Z own bytes mx rt nm rm n0) {x y : Int64} (hd : decode bytes pc = .ok (.lsub, 1)) (hs : st = .long y :: .long x :: rest) (hp : pc + 1 = pc') (g : G w Q h k n pc' Ls (.long (x - y) :: rest)) : G w Q h k n pc Ls st := by
  subst hp; exact g.adv fun T locs X _ t r => XS.lsub X.here C.ex rfl (C.dec hd) hs r
theorem g_lmul (C : Cx w l Z own bytes mx rt nm rm n0) {x y : Int64} (hd : decode bytes pc = .ok (.lmul, 1)) (hs : st = .long y :: .long x :: rest) (hp : pc + 1 = pc') (g : G w Q h k n pc' Ls (.long (x * y) :: rest)) : G w Q h k n pc Ls st := by
  subst hp; exact g.adv fun T locs X _ t r => XS.lmul X.here C.ex rfl (C.dec hd) hs r
theorem g_land (C : Cx w l Z own bytes mx rt nm rm n0) {x y : Int64} (hd : decode bytes pc = .ok (.land, 1)) (hs : st = .long y :: .long x :: rest) (hp : pc + 1 = pc') (g : G w Q h k n pc' Ls (.long (x &&& y) :: rest)) : G w Q h k n pc Ls st := by
  subst hp; exact g.adv fun T locs X _ t r => XS.land X.here C.ex rfl (C.dec hd) hs r
theorem g_lor (C : Cx w l Z own bytes mx rt nm rm n0) {x y : Int64} (hd : decode bytes pc = .ok (.lor, 1)) (hs : st = .long y :: .long x :: rest) (hp : pc + 1 = pc') (g : G w Q h k n pc' Ls (.long (x ||| y) :: rest)) : G w Q h k n pc Ls st := by
  subst hp; exact g.adv fun T locs X _ t r => XS.lor X.here C.ex rfl (C.dec hd) hs r
theorem g_lxor (C : Cx w l Z own bytes mx rt nm rm n0) {x y : Int64} (hd : decode bytes pc = .ok (.lxor, 1)) (hs : st = .long y :: .long x :: rest) (hp : pc + 1 = pc') (g : G w Q h k n pc' Ls (.long (x ^^^ y) :: rest)) : G w Q h k n pc Ls st := by
  subst hp; exact g.adv fun T locs X _ t r => XS.lxor X.here C.ex rfl (C.dec hd) hs r
theorem g_ishl (C : Cx w l Z own bytes mx rt nm rm n0) {x y : Int32} (hd : decode bytes pc = .ok (.ishl, 1)) (hs : st = .int y :: .int x :: rest) (hp : pc + 1 = pc') (g : G w Q h k n pc' Ls (.int (x <<< (y &&& 31)) :: rest)) : G w Q h k n pc Ls st := by
  subst hp; exact g.adv fun T locs X _ t r => XS.ishl X.here C.ex rfl (C.dec hd) hs r
theorem g_ishr (C : Cx w l Z own bytes mx rt nm rm n0) {x y : Int32} (hd : decode bytes pc = .ok (.ishr, 1)) (hs : st = .int y :: .int x :: rest) (hp : pc + 1 = pc') (g : G w Q h k n pc' Ls (.int (x >>> (y &&& 31)) :: rest)) : G w Q h k n pc Ls st := by
  subst hp; exact g.adv fun T locs X _ t r => XS.ishr X.here C.ex rfl (C.dec hd) hs r
theorem g_iushr (C : Cx w l Z own bytes mx rt nm rm n0) {x y : Int32} (hd : decode bytes pc = .ok (.iushr, 1)) (hs : st = .int y :: .int x :: rest) (hp : pc + 1 = pc') (g : G w Q h k n pc' Ls (.int ((x.toUInt32 >>> (y &&& 31).toUInt32).toInt32) :: rest)) : G w Q h k n pc Ls st := by
  subst hp; exact g.adv fun T locs X _ t r => XS.iushr X.here C.ex rfl (C.dec hd) hs r
theorem g_ineg (C : Cx w l Z own bytes mx rt nm rm n0) {x : Int32} (hd : decode bytes pc = .ok (.ineg, 1)) (hs : st = .int x :: rest) (hp : pc + 1 = pc') (g : G w Q h k n pc' Ls (.int (-x) :: rest)) : G w Q h k n pc Ls st := by
  subst hp; exact g.adv fun T locs X _ t r => XS.ineg X.here C.ex rfl (C.dec hd) hs r
theorem g_lneg (C : Cx w l Z own bytes mx rt nm rm n0) {x : Int64} (hd : decode bytes pc = .ok (.lneg, 1)) (hs : st = .long x :: rest) (hp : pc + 1 = pc') (g : G w Q h k n pc' Ls (.long (-x) :: rest)) : G w Q h k n pc Ls st := by
  subst hp; exact g.adv fun T locs X _ t r => XS.lneg X.here C.ex rfl (C.dec hd) hs r
theorem g_i2l (C : Cx w l Z own bytes mx rt nm rm n0) {x : Int32} (hd : decode bytes pc = .ok (.i2l, 1)) (hs : st = .int x :: rest) (hp : pc + 1 = pc') (g : G w Q h k n pc' Ls (.long x.toInt64 :: rest)) : G w Q h k n pc Ls st := by
  subst hp; exact g.adv fun T locs X _ t r => XS.i2l X.here C.ex rfl (C.dec hd) hs r
theorem g_l2i (C : Cx w l Z own bytes mx rt nm rm n0) {x : Int64} (hd : decode bytes pc = .ok (.l2i, 1)) (hs : st = .long x :: rest) (hp : pc + 1 = pc') (g : G w Q h k n pc' Ls (.int x.toInt32 :: rest)) : G w Q h k n pc Ls st := by
  subst hp; exact g.adv fun T locs X _ t r => XS.l2i X.here C.ex rfl (C.dec hd) hs r
theorem g_i2b (C : Cx w l Z own bytes mx rt nm rm n0) {x : Int32} (hd : decode bytes pc = .ok (.i2b, 1)) (hs : st = .int x :: rest) (hp : pc + 1 = pc') (g : G w Q h k n pc' Ls (.int x.toInt8.toInt32 :: rest)) : G w Q h k n pc Ls st := by
  subst hp; exact g.adv fun T locs X _ t r => XS.i2b X.here C.ex rfl (C.dec hd) hs r
theorem g_i2s (C : Cx w l Z own bytes mx rt nm rm n0) {x : Int32} (hd : decode bytes pc = .ok (.i2s, 1)) (hs : st = .int x :: rest) (hp : pc + 1 = pc') (g : G w Q h k n pc' Ls (.int x.toInt16.toInt32 :: rest)) : G w Q h k n pc Ls st := by
  subst hp; exact g.adv fun T locs X _ t r => XS.i2s X.here C.ex rfl (C.dec hd) hs r
theorem g_i2c (C : Cx w l Z own bytes mx rt nm rm n0) {x : Int32} (hd : decode bytes pc = .ok (.i2c, 1)) (hs : st = .int x :: rest) (hp : pc + 1 = pc') (g : G w Q h k n pc' Ls (.int x.toUInt32.toUInt16.toUInt32.toInt32 :: rest)) : G w Q h k n pc Ls st := by
  subst hp; exact g.adv fun T locs X _ t r => XS.i2c X.here C.ex rfl (C.dec hd) hs r
theorem g_irem (C : Cx w l Z own bytes mx rt nm rm n0) {x y : Int32} (hd : decode bytes pc = .ok (.irem, 1)) (hs : st = .int y :: .int x :: rest) (hy : y ≠ 0) (hp : pc + 1 = pc') (g : G w Q h k n pc' Ls (.int (x % y) :: rest)) : G w Q h k n pc Ls st := by
  subst hp; exact g.adv fun T locs X _ t r => iremM (g := mkF w.m pc Ls st) X C.ex rfl (C.dec hd) hs hy r
theorem g_idiv (C : Cx w l Z own bytes mx rt nm rm n0) {x y : Int32} (hd : decode bytes pc = .ok (.idiv, 1)) (hs : st = .int y :: .int x :: rest) (hy : y ≠ 0) (hp : pc + 1 = pc') (g : G w Q h k n pc' Ls (.int (x / y) :: rest)) : G w Q h k n pc Ls st := by
  subst hp; exact g.adv fun T locs X _ t r => XS.idiv X.here C.ex rfl (C.dec hd) hs hy r
theorem g_ldiv (C : Cx w l Z own bytes mx rt nm rm n0) {x y : Int64} (hd : decode bytes pc = .ok (.ldiv, 1)) (hs : st = .long y :: .long x :: rest) (hy : y ≠ 0) (hp : pc + 1 = pc') (g : G w Q h k n pc' Ls (.long (x / y) :: rest)) : G w Q h k n pc Ls st := by
  subst hp; exact g.adv fun T locs X _ t r => XS.ldiv X.here C.ex rfl (C.dec hd) hs hy r
theorem g_lrem (C : Cx w l Z own bytes mx rt nm rm n0) {x y : Int64} (hd : decode bytes pc = .ok (.lrem, 1)) (hs : st = .long y :: .long x :: rest) (hy : y ≠ 0) (hp : pc + 1 = pc') (g : G w Q h k n pc' Ls (.long (x - (x / y) * y) :: rest)) : G w Q h k n pc Ls st := by
  subst hp; exact g.adv fun T locs X _ t r => XS.lrem X.here C.ex rfl (C.dec hd) hs hy r
theorem g_lcmp (C : Cx w l Z own bytes mx rt nm rm n0) {x y : Int64} (hd : decode bytes pc = .ok (.lcmp, 1)) (hs : st = .long y :: .long x :: rest) (hp : pc + 1 = pc') (g : G w Q h k n pc' Ls (.int (lcmpW x y) :: rest)) : G w Q h k n pc Ls st := by
  subst hp; exact g.adv fun T locs X _ t r => XS.lcmp X.here C.ex rfl (C.dec hd) hs r
theorem g_dup (C : Cx w l Z own bytes mx rt nm rm n0) {x : Value} (hd : decode bytes pc = .ok (.dup, 1)) (hs : st = x :: rest) (hc : x.category = 1) (hp : pc + 1 = pc') (g : G w Q h k n pc' Ls (x :: x :: rest)) : G w Q h k n pc Ls st := by
  subst hp; exact g.adv fun T locs X _ t r => XS.dup X.here C.ex rfl (C.dec hd) hs hc r
theorem g_pop (C : Cx w l Z own bytes mx rt nm rm n0) {x : Value} (hd : decode bytes pc = .ok (.pop, 1)) (hs : st = x :: rest) (hc : x.category = 1) (hp : pc + 1 = pc') (g : G w Q h k n pc' Ls rest) : G w Q h k n pc Ls st := by
  subst hp; exact g.adv fun T locs X _ t r => XS.pop X.here C.ex rfl (C.dec hd) hs hc r
theorem g_dup_x1 (C : Cx w l Z own bytes mx rt nm rm n0) {x y : Value} (hd : decode bytes pc = .ok (.dup_x1, 1)) (hs : st = x :: y :: rest) (hc : x.category = 1) (hc' : y.category = 1) (hp : pc + 1 = pc') (g : G w Q h k n pc' Ls (x :: y :: x :: rest)) : G w Q h k n pc Ls st := by
  subst hp; exact g.adv fun T locs X _ t r => XS.dupX1 X.here C.ex rfl (C.dec hd) hs hc hc' r
theorem g_dup2 (C : Cx w l Z own bytes mx rt nm rm n0) {x y : Value} (hd : decode bytes pc = .ok (.dup2, 1)) (hs : st = x :: y :: rest) (hc : x.category = 1) (hc' : y.category = 1) (hp : pc + 1 = pc') (g : G w Q h k n pc' Ls (x :: y :: x :: y :: rest)) : G w Q h k n pc Ls st := by
  subst hp; exact g.adv fun T locs X _ t r => XT.dup2 X.here C.ex rfl (C.dec hd) hs hc hc' r
theorem g_dup2L (C : Cx w l Z own bytes mx rt nm rm n0) {x : Int64} (hd : decode bytes pc = .ok (.dup2, 1)) (hs : st = .long x :: rest) (hp : pc + 1 = pc') (g : G w Q h k n pc' Ls (.long x :: .long x :: rest)) : G w Q h k n pc Ls st := by
  subst hp; exact g.adv fun T locs X _ t r => XT.dup2L X.here C.ex rfl (C.dec hd) hs r
theorem g_pop2L (C : Cx w l Z own bytes mx rt nm rm n0) {x : Int64} (hd : decode bytes pc = .ok (.pop2, 1)) (hs : st = .long x :: rest) (hp : pc + 1 = pc') (g : G w Q h k n pc' Ls rest) : G w Q h k n pc Ls st := by
  subst hp hs; exact g.adv fun T locs X _ t r => by
    have hx := C.ex
    have hd' := C.dec hd
    show Steps w.p.tables w.e w.below (T.setTop { method := w.m, pc := pc, locals := Ls, stack := _ :: rest, locked := none }) _
    jvm_step X.here [X.here.top, hx, hd', Value.category]
    exact r
theorem g_dup2_x2L (C : Cx w l Z own bytes mx rt nm rm n0) {x : Int64} {y : Int32} {z : Addr} (hd : decode bytes pc = .ok (.dup2_x2, 1)) (hs : st = .long x :: .int y :: .ref z :: rest) (hp : pc + 1 = pc') (g : G w Q h k n pc' Ls (.long x :: .int y :: .ref z :: .long x :: rest)) : G w Q h k n pc Ls st := by
  subst hp hs; exact g.adv fun T locs X _ t r => by
    have hx := C.ex
    have hd' := C.dec hd
    show Steps w.p.tables w.e w.below (T.setTop { method := w.m, pc := pc, locals := Ls, stack := _ :: _ :: _ :: rest, locked := none }) _
    jvm_step X.here [X.here.top, hx, hd', Value.category]
    exact r
theorem g_goto (C : Cx w l Z own bytes mx rt nm rm n0) {o : Int} (hd : decode bytes pc = .ok (.goto o, 3)) (ho : 0 ≤ (pc : Int) + o) (hp : ((pc : Int) + o).toNat = pc') (g : G w Q h k n pc' Ls st) : G w Q h k n pc Ls st :=
  g.adv fun T locs X _ t r => XS.goto X.here C.ex rfl (pc0 := pc) rfl (C.dec hd) ho hp r
theorem g_ifY (C : Cx w l Z own bytes mx rt nm rm n0) {cd : ClassFile.Cond} {o : Int} {x : Int32} (hd : decode bytes pc = .ok (.ifCond cd o, 3)) (hs : st = .int x :: rest) (hc : if_icmp.holds cd x 0 = true) (ho : 0 ≤ (pc : Int) + o) (hp : ((pc : Int) + o).toNat = pc') (g : G w Q h k n pc' Ls rest) : G w Q h k n pc Ls st :=
  g.adv fun T locs X _ t r => XS.ifYes X.here C.ex rfl (pc0 := pc) rfl (C.dec hd) hs ((if0 _ _).trans hc) ho hp r
theorem g_ifN (C : Cx w l Z own bytes mx rt nm rm n0) {cd : ClassFile.Cond} {o : Int} {x : Int32} (hd : decode bytes pc = .ok (.ifCond cd o, 3)) (hs : st = .int x :: rest) (hc : if_icmp.holds cd x 0 = false) (hp : pc + 3 = pc') (g : G w Q h k n pc' Ls rest) : G w Q h k n pc Ls st := by
  subst hp; exact g.adv fun T locs X _ t r => XS.ifNo X.here C.ex rfl (C.dec hd) hs ((if0 _ _).trans hc) r
theorem g_icY (C : Cx w l Z own bytes mx rt nm rm n0) {cd : ClassFile.Cond} {o : Int} {x y : Int32} (hd : decode bytes pc = .ok (.if_icmp cd o, 3)) (hs : st = .int y :: .int x :: rest) (hc : if_icmp.holds cd x y = true) (ho : 0 ≤ (pc : Int) + o) (hp : ((pc : Int) + o).toNat = pc') (g : G w Q h k n pc' Ls rest) : G w Q h k n pc Ls st :=
  g.adv fun T locs X _ t r => XS.icmpYes X.here C.ex rfl (pc0 := pc) rfl (C.dec hd) hs hc ho hp r
theorem g_icN (C : Cx w l Z own bytes mx rt nm rm n0) {cd : ClassFile.Cond} {o : Int} {x y : Int32} (hd : decode bytes pc = .ok (.if_icmp cd o, 3)) (hs : st = .int y :: .int x :: rest) (hc : if_icmp.holds cd x y = false) (hp : pc + 3 = pc') (g : G w Q h k n pc' Ls rest) : G w Q h k n pc Ls st := by
  subst hp; exact g.adv fun T locs X _ t r => XS.icmpNo X.here C.ex rfl (C.dec hd) hs hc r
/-- what a branch says, in plain words -/
def says (cd : ClassFile.Cond) (x y : Int32) : Prop := match cd with | .lt => x < y | .ge => ¬ x < y | .gt => y < x | .le => ¬ y < x | .eq => x = y | .ne => ¬ x = y
theorem says_t {cd : ClassFile.Cond} {x y : Int32} (q : says cd x y) : if_icmp.holds cd x y = true := by
  cases cd
  · exact (teq q).1
  · exact (feq q).2
  · exact (tlt q).1
  · exact (flt q).2.1
  · exact (tlt q).2.2.1
  · exact (flt q).2.2.2
theorem says_f {cd : ClassFile.Cond} {x y : Int32} (q : ¬ says cd x y) : if_icmp.holds cd x y = false := by
  cases cd
  · exact (feq q).1
  · exact (teq (Decidable.not_not.mp q)).2
  · exact (flt q).1
  · exact (tlt (Decidable.not_not.mp q)).2.1
  · exact (flt q).2.2.1
  · exact (tlt (Decidable.not_not.mp q)).2.2.2
theorem g_icB (C : Cx w l Z own bytes mx rt nm rm n0) {cd : ClassFile.Cond} {o : Int} {x y : Int32} {pcT : Nat} (hd : decode bytes pc = .ok (.if_icmp cd o, 3)) (hs : st = .int y :: .int x :: rest) (ho : 0 ≤ (pc : Int) + o) (hT : ((pc : Int) + o).toNat = pcT) (hp : pc + 3 = pc') (gy : says cd x y → G w Q h k n pcT Ls rest) (gn : ¬ says cd x y → G w Q h k n pc' Ls rest) : G w Q h k n pc Ls st := by
  by_cases q : says cd x y
  · exact g_icY C hd hs (says_t q) ho hT (gy q)
  · exact g_icN C hd hs (says_f q) hp (gn q)
theorem g_ifB (C : Cx w l Z own bytes mx rt nm rm n0) {cd : ClassFile.Cond} {o : Int} {x : Int32} {pcT : Nat} (hd : decode bytes pc = .ok (.ifCond cd o, 3)) (hs : st = .int x :: rest) (ho : 0 ≤ (pc : Int) + o) (hT : ((pc : Int) + o).toNat = pcT) (hp : pc + 3 = pc') (gy : says cd x 0 → G w Q h k n pcT Ls rest) (gn : ¬ says cd x 0 → G w Q h k n pc' Ls rest) : G w Q h k n pc Ls st := by
  by_cases q : says cd x 0
  · exact g_ifY C hd hs (says_t q) ho hT (gy q)
  · exact g_ifN C hd hs (says_f q) hp (gn q)
theorem g_ifnullY (C : Cx w l Z own bytes mx rt nm rm n0) {o : Int} (hd : decode bytes pc = .ok (.ifnull o, 3)) (hs : st = .null :: rest) (ho : 0 ≤ (pc : Int) + o) (hp : ((pc : Int) + o).toNat = pc') (g : G w Q h k n pc' Ls rest) : G w Q h k n pc Ls st :=
  g.adv fun T locs X _ t r => XS.ifnullYes X.here C.ex rfl (pc0 := pc) rfl (C.dec hd) hs ho hp r
theorem g_ifnullN (C : Cx w l Z own bytes mx rt nm rm n0) {o : Int} {b : Addr} (hd : decode bytes pc = .ok (.ifnull o, 3)) (hs : st = .ref b :: rest) (hp : pc + 3 = pc') (g : G w Q h k n pc' Ls rest) : G w Q h k n pc Ls st := by
  subst hp; exact g.adv fun T locs X _ t r => XS.ifnullNo X.here C.ex rfl (C.dec hd) hs r
theorem g_ifnonnullY (C : Cx w l Z own bytes mx rt nm rm n0) {o : Int} {b : Addr} (hd : decode bytes pc = .ok (.ifnonnull o, 3)) (hs : st = .ref b :: rest) (ho : 0 ≤ (pc : Int) + o) (hp : ((pc : Int) + o).toNat = pc') (g : G w Q h k n pc' Ls rest) : G w Q h k n pc Ls st :=
  g.adv fun T locs X _ t r => XS.ifnonnullYes X.here C.ex rfl (pc0 := pc) rfl (C.dec hd) hs ho hp r
theorem g_ifnonnullN (C : Cx w l Z own bytes mx rt nm rm n0) {o : Int} (hd : decode bytes pc = .ok (.ifnonnull o, 3)) (hs : st = .null :: rest) (hp : pc + 3 = pc') (g : G w Q h k n pc' Ls rest) : G w Q h k n pc Ls st := by
  subst hp; exact g.adv fun T locs X _ t r => XS.ifnonnullNo X.here C.ex rfl (C.dec hd) hs r
theorem g_acmp (C : Cx w l Z own bytes mx rt nm rm n0) {cd : ACond} {o : Int} {x y : Value} {same : Bool} (hd : decode bytes pc = .ok (.if_acmp cd o, 3)) (hs : st = y :: x :: rest) (h1 : x.isRef = true) (h2 : y.isRef = true) (hq : decide (x = y) = same) (ho : 0 ≤ (pc : Int) + o) (hp : pc' = if acV cd same = true then ((pc : Int) + o).toNat else pc + 3) (g : G w Q h k n pc' Ls rest) : G w Q h k n pc Ls st :=
  g.adv fun T locs X _ t r => Jvm.RoadKit.acmp (g := mkF w.m pc Ls st) X C.ex rfl h1 h2 (pc0 := pc) rfl (C.dec hd) hs hq ho hp r
theorem g_tsw (C : Cx w l Z own bytes mx rt nm rm n0) {df lo hi : Int} {offs : Array Int} {len : Nat} {o : Int} {i : Int32} (hd : decode bytes pc = .ok (.tableswitch df lo hi offs, len)) (hs : st = .int i :: rest) (hin : ¬ (i.toInt < lo ∨ i.toInt > hi)) (hoff : offs[(i.toInt - lo).toNat]? = some o) (ho : 0 ≤ (pc : Int) + o) (hp : ((pc : Int) + o).toNat = pc') (g : G w Q h k n pc' Ls rest) : G w Q h k n pc Ls st :=
  g.adv fun T locs X _ t r => XS.tswIn X.here C.ex rfl (pc0 := pc) rfl (C.dec hd) hs hin hoff ho hp r
theorem g_tswOut (C : Cx w l Z own bytes mx rt nm rm n0) {df lo hi : Int} {offs : Array Int} {len : Nat} {i : Int32} (hd : decode bytes pc = .ok (.tableswitch df lo hi offs, len)) (hs : st = .int i :: rest) (hin : i.toInt < lo ∨ i.toInt > hi) (ho : 0 ≤ (pc : Int) + df) (hp : ((pc : Int) + df).toNat = pc') (g : G w Q h k n pc' Ls rest) : G w Q h k n pc Ls st :=
  g.adv fun T locs X _ t r => XS.tswOut X.here C.ex rfl (pc0 := pc) rfl (C.dec hd) hs hin ho hp r
/-! the heap and the tables -/
theorem g_getF (C : Cx w l Z own bytes mx rt nm rm n0) {R0 O f d : String} {i : Nat} {a : Addr} {v : Value} (hw : (Jvm.Cond.fieldLink own i R0 f d).before a0 Z = true) (via : Via Z R0 O f d) (hd : decode bytes pc = .ok (.getfield i, 3)) (hs : st = .ref a :: rest) (F : Fld Z h a O f d v) (hp : pc + 3 = pc') (g : G w Q h k n pc' Ls (v :: rest)) : G w Q h k n pc Ls st := by
  subst hp; intro T locs X eT N
  obtain ⟨T', X', e', s'⟩ := getF X C.ex C.hZ C.ow (host := "") (Or.inl hw) via eT F (g := mkF w.m pc Ls st) rfl hs (C.dec hd)
  exact G.to X' e' N s' g
theorem g_getFN (C : Cx w l Z own bytes mx rt nm rm n0) {R0 O f d host : String} {i : Nat} {a : Addr} {v : Value} (hw : (Jvm.Cond.fieldLinkNest own i R0 f d host).before a0 Z = true) (via : Via Z R0 O f d) (hd : decode bytes pc = .ok (.getfield i, 3)) (hs : st = .ref a :: rest) (F : Fld Z h a O f d v) (hp : pc + 3 = pc') (g : G w Q h k n pc' Ls (v :: rest)) : G w Q h k n pc Ls st := by
  subst hp; intro T locs X eT N
  obtain ⟨T', X', e', s'⟩ := getF X C.ex C.hZ C.ow (Or.inr hw) via eT F (g := mkF w.m pc Ls st) rfl hs (C.dec hd)
  exact G.to X' e' N s' g
theorem g_getS (C : Cx w l Z own bytes mx rt nm rm n0) {R0 O f d : String} {i : Nat} {v : Value} (hw : (Jvm.Cond.fieldLink own i R0 f d).before a0 Z = true) (via : Via Z R0 O f d) (hd : decode bytes pc = .ok (.getstatic i, 3)) (F : Sta Z h O f d v) (hp : pc + 3 = pc') (g : G w Q h k n pc' Ls (v :: st)) : G w Q h k n pc Ls st := by
  subst hp; intro T locs X eT N
  obtain ⟨T', X', e', s'⟩ := getS2 X C.ex C.hZ C.ow (host := "") (Or.inl hw) via eT F (g := mkF w.m pc Ls st) rfl (C.dec hd)
  exact G.to X' e' N s' g
theorem g_getSN (C : Cx w l Z own bytes mx rt nm rm n0) {R0 O f d host : String} {i : Nat} {v : Value} (hw : (Jvm.Cond.fieldLinkNest own i R0 f d host).before a0 Z = true) (via : Via Z R0 O f d) (hd : decode bytes pc = .ok (.getstatic i, 3)) (F : Sta Z h O f d v) (hp : pc + 3 = pc') (g : G w Q h k n pc' Ls (v :: st)) : G w Q h k n pc Ls st := by
  subst hp; intro T locs X eT N
  obtain ⟨T', X', e', s'⟩ := getS2 X C.ex C.hZ C.ow (Or.inr hw) via eT F (g := mkF w.m pc Ls st) rfl (C.dec hd)
  exact G.to X' e' N s' g
theorem fr_snoc {L : List Loc} {a : Addr} {sl k : Nat} (N : Fr k L) (q : k ≤ a) : Fr k (L ++ [⟨a, sl⟩]) := N.app fun y hy => by cases List.mem_singleton.mp hy; exact q
theorem g_putF (C : Cx w l Z own bytes mx rt nm rm n0) {R0 O f d K : String} {i kk : Nat} {ty : FieldType} {a : Addr} {v old : Value} (hw : (Jvm.Cond.fieldLink own i R0 f d).before a0 Z = true) (via : Via Z R0 O f d) (hd : decode bytes pc = .ok (.putfield i, 3)) (hs : st = v :: .ref a :: rest) (F : Fld Z h a O f d old) (E : Exa Z h a K) (La : (Jvm.Cond.lays K O f d).before a0 Z = true ∨ ((Jvm.Cond.laysFinal K O f d).before a0 Z = true ∧ own = O ∧ nm = "<init>")) (wi : (Jvm.Cond.instantiable K kk).before a0 Z = true) (hty : parseFieldDescriptor d = some ty) (hn : narrow ty v = v) (hf : fits ty v = true) (ge : n0 ≤ a) (hp : pc + 3 = pc')
    (g : ∀ h', Wr h h' a (Jvm.RoadKit.slotOf Z O f d) v → G w Q h' k n pc' Ls rest) : G w Q h k n pc Ls st := by
  subst hp; intro T locs X eT N
  obtain ⟨T', h', X', e', W, s'⟩ := putF X C.ex C.hZ C.ow (host := "") (Or.inl hw) via eT F E (La.imp id fun q => ⟨q.1, q.2.1, C.mn.trans q.2.2⟩) wi hty hn hf (g := mkF w.m pc Ls st) rfl hs (C.dec hd)
  exact G.to X' e' (fr_snoc N (C.nn ▸ ge)) s' (g h' W)
theorem g_putFN (C : Cx w l Z own bytes mx rt nm rm n0) {R0 O f d K : String} {i kk : Nat} {ty : FieldType} {a : Addr} {v v' old : Value} (hw : (Jvm.Cond.fieldLink own i R0 f d).before a0 Z = true) (via : Via Z R0 O f d) (hd : decode bytes pc = .ok (.putfield i, 3)) (hs : st = v :: .ref a :: rest) (F : Fld Z h a O f d old) (E : Exa Z h a K) (La : (Jvm.Cond.lays K O f d).before a0 Z = true ∨ ((Jvm.Cond.laysFinal K O f d).before a0 Z = true ∧ own = O ∧ nm = "<init>")) (wi : (Jvm.Cond.instantiable K kk).before a0 Z = true) (hty : parseFieldDescriptor d = some ty) (hn : narrow ty v = v') (hf : fits ty v' = true) (ge : n0 ≤ a) (hp : pc + 3 = pc')
    (g : ∀ h', Wr h h' a (Jvm.RoadKit.slotOf Z O f d) v' → G w Q h' k n pc' Ls rest) : G w Q h k n pc Ls st := by
  subst hp; intro T locs X eT N
  obtain ⟨T', h', X', e', W, s'⟩ := putFN X C.ex C.hZ C.ow hw via eT F E (La.imp id fun q => ⟨q.1, q.2.1, C.mn.trans q.2.2⟩) wi hty hn hf (g := mkF w.m pc Ls st) rfl hs (C.dec hd)
  exact G.to X' e' (fr_snoc N (C.nn ▸ ge)) s' (g h' W)
theorem g_new (C : Cx w l Z own bytes mx rt nm rm n0) {K : String} {i ns : Nat} (hw : (Jvm.Cond.classLink own i K).before a0 Z = true) (wi : (Jvm.Cond.instantiable K ns).before a0 Z = true) (wz : (Jvm.Cond.initialized K).before a0 Z = true) (hd : decode bytes pc = .ok (.new i, 3)) (hc : k' ≤ rm.cells) (hl : n' ≤ rm.slots) (ek : k + 1 = k') (en : n + ns = n') (hp : pc + 3 = pc')
    (g : ∀ h' a, a = h.size → Ext h h' → Exa Z h' a K → (∀ {O f d : String} {ty : FieldType}, Laid Z a0 K O f d → parseFieldDescriptor d = some ty → Fld Z h' a O f d (defaultValue ty)) → G w Q h' k' n' pc' Ls (.ref a :: st)) : G w Q h k n pc Ls st := by
  subst hp ek en; intro T locs X eT N
  obtain ⟨T', h', X', e', E, A, D, -, s'⟩ := newO X C.ex C.hZ C.ow hw wi wz eT (g := mkF w.m pc Ls st) rfl (C.dec hd) (by rw [C.ro]; exact hc) (by rw [C.ro]; exact hl)
  exact G.to X' e' N s' (g h' _ rfl E A D)
theorem g_initO (C : Cx w l Z own bytes mx rt nm rm n0) {i : Nat} {a : Addr} (hw : (Jvm.Cond.methodLink own i Lib.objectInit).before a0 Z = true) (w2 : (Jvm.Cond.instanceMethod Lib.objectInit).before a0 Z = true) (w3 : (Jvm.Cond.code Lib.objectInit ⟨#[0xb1]⟩ 1 none).before a0 Z = true) (hd : decode bytes pc = .ok (.invokespecial i, 3)) (hs : st = .ref a :: rest) (hz : Ls.size = mx) (hf : 1 ≤ rm.frames) (hl : (rest.map fun v => v.category).sum + 12 ≤ rm.locals) (hp : pc + 3 = pc') (g : G w Q h k n pc' Ls rest) : G w Q h k n pc Ls st := by
  subst hp; intro T locs X eT N
  obtain ⟨T', X', e', s'⟩ := initO X C.ex C.hZ C.ow hw w2 w3 eT (g := mkF w.m pc Ls st) rfl (hz.trans C.ml.symm) hs (C.dec hd) (by rw [C.ro]; exact hf) (W := (rest.map fun v => v.category).sum) (by show 2 * 0 + _ ≤ _; omega) (by rw [C.ro]; exact hl)
  exact G.to X' e' N s' g
theorem g_cast (C : Cx w l Z own bytes mx rt nm rm n0) {K : String} {i : Nat} {a : Addr} (hw : (Jvm.Cond.classLink own i K).before a0 Z = true) (hd : decode bytes pc = .ok (.checkcast i, 3)) (hs : st = .ref a :: rest) (F : Ins Z h a K true) (hp : pc + 3 = pc') (g : G w Q h k n pc' Ls st) : G w Q h k n pc Ls st := by
  subst hp; intro T locs X eT N
  obtain ⟨T', X', e', s'⟩ := castY X C.ex C.hZ C.ow hw eT F (g := mkF w.m pc Ls st) rfl hs (C.dec hd)
  exact G.to X' e' N s' g
theorem g_instY (C : Cx w l Z own bytes mx rt nm rm n0) {K : String} {i : Nat} {a : Addr} (hw : (Jvm.Cond.classLink own i K).before a0 Z = true) (hd : decode bytes pc = .ok (.instanceof i, 3)) (hs : st = .ref a :: rest) (F : Ins Z h a K true) (hp : pc + 3 = pc') (g : G w Q h k n pc' Ls (.int 1 :: rest)) : G w Q h k n pc Ls st := by
  subst hp; intro T locs X eT N
  obtain ⟨T', X', e', s'⟩ := instY X C.ex C.hZ C.ow hw eT F (g := mkF w.m pc Ls st) rfl hs (C.dec hd)
  exact G.to X' e' N s' g
theorem g_instN (C : Cx w l Z own bytes mx rt nm rm n0) {K B : String} {i : Nat} {a : Addr} (hw : (Jvm.Cond.classLink own i K).before a0 Z = true) (hd : decode bytes pc = .ok (.instanceof i, 3)) (hs : st = .ref a :: rest) (E : Exa Z h a B) (F : ∃ c t, Z.vm.findClass B = some c ∧ Z.vm.findClass K = some t ∧ Z.vm.assignable c t = false) (hp : pc + 3 = pc') (g : G w Q h k n pc' Ls (.int 0 :: rest)) : G w Q h k n pc Ls st := by
  subst hp; intro T locs X eT N
  obtain ⟨T', X', e', s'⟩ := instNo X C.ex C.hZ C.ow hw eT E F (g := mkF w.m pc Ls st) rfl hs (C.dec hd)
  exact G.to X' e' N s' g
theorem g_newP (C : Cx w l Z own bytes mx rt nm rm n0) {aty : ArrayType} {z : Int32} {cap : Nat} (hw : (Jvm.Cond.arrayClass (newarray.typeOf aty)).before a0 Z = true) (hd : decode bytes pc = .ok (.newarray aty, 2)) (hs : st = .int z :: rest) (hn : ¬ z < 0) (hcap : z.toNatClampNeg ≤ cap) (hb' : cap * 8 ≤ 536870912) (hc : k' ≤ rm.cells) (hl : n' ≤ rm.slots) (ek : k + 1 = k') (en : n + cap = n') (hp : pc + 2 = pc')
    (g : ∀ h' a kA, a = h.size → Ext h h' → Arv Z h' a kA (newarray.typeOf aty) z [] (defaultValue (newarray.typeOf aty)) → G w Q h' k' n' pc' Ls (.ref a :: rest)) : G w Q h k n pc Ls st := by
  subst hp ek en; intro T locs X eT N
  obtain ⟨T', h', kA, X', e', E, A, s'⟩ := newP X C.ex C.hZ hw eT (g := mkF w.m pc Ls st) rfl (C.dec hd) hs hn hcap hb' (by rw [C.ro]; exact hc) (by rw [C.ro]; exact hl)
  exact G.to X' e' N s' (g h' _ kA rfl E (Arv.new A hn))
theorem g_newR (C : Cx w l Z own bytes mx rt nm rm n0) {K : String} {i : Nat} {z : Int32} {cap : Nat} (hw : (Jvm.Cond.classLink own i K).before a0 Z = true) (w2 : (Jvm.Cond.arrayOver (.object K)).before a0 Z = true) (hd : decode bytes pc = .ok (.anewarray i, 3)) (hs : st = .int z :: rest) (hn : ¬ z < 0) (hcap : z.toNatClampNeg ≤ cap) (hb' : cap * 8 ≤ 536870912) (hc : k' ≤ rm.cells) (hl : n' ≤ rm.slots) (ek : k + 1 = k') (en : n + cap = n') (hp : pc + 3 = pc')
    (g : ∀ h' a kA, a = h.size → Ext h h' → Arv Z h' a kA (.object K) z [] .null → Ovr Z kA K → G w Q h' k' n' pc' Ls (.ref a :: rest)) : G w Q h k n pc Ls st := by
  subst hp ek en; intro T locs X eT N
  obtain ⟨T', h', kA, X', e', E, A, O, s'⟩ := newR X C.ex C.hZ C.ow hw w2 eT (g := mkF w.m pc Ls st) rfl (C.dec hd) hs hn hcap hb' (by rw [C.ro]; exact hc) (by rw [C.ro]; exact hl)
  exact G.to X' e' N s' (g h' _ kA rfl E (Arv.new A hn) O)
theorem g_newPE (C : Cx w l Z own bytes mx rt nm rm n0) {aty : ArrayType} {z : Int32} {cap : Nat} {ad : String} (hw : (Jvm.Cond.arrayClass (newarray.typeOf aty)).before a0 Z = true) (had : "[" ++ (newarray.typeOf aty).toString = ad) (hd : decode bytes pc = .ok (.newarray aty, 2)) (hs : st = .int z :: rest) (hn : ¬ z < 0) (hcap : z.toNatClampNeg ≤ cap) (hb' : cap * 8 ≤ 536870912) (hc : k' ≤ rm.cells) (hl : n' ≤ rm.slots) (ek : k + 1 = k') (en : n + cap = n') (hp : pc + 2 = pc')
    (g : ∀ h' a kA, a = h.size → Ext h h' → Arv Z h' a kA (newarray.typeOf aty) z [] (defaultValue (newarray.typeOf aty)) → Exa Z h' a ad → G w Q h' k' n' pc' Ls (.ref a :: rest)) : G w Q h k n pc Ls st := by
  subst hp ek en; intro T locs X eT N
  obtain ⟨T', h', kA, X', e', E, A, B, s'⟩ := newPE X C.ex C.hZ hw eT (g := mkF w.m pc Ls st) rfl (C.dec hd) hs hn hcap hb' (by rw [C.ro]; exact hc) (by rw [C.ro]; exact hl) had
  exact G.to X' e' N s' (g h' _ kA rfl E (Arv.new A hn) B)
theorem g_newRA (C : Cx w l Z own bytes mx rt nm rm n0) {K ad : String} {i : Nat} {ty : FieldType} {z : Int32} {cap : Nat} (hC : (FieldType.array ty).toString = K) (had : "[" ++ K = ad) (hw : (Jvm.Cond.classLink own i K).before a0 Z = true) (w2 : (Jvm.Cond.arrayOver (.array ty)).before a0 Z = true) (hd : decode bytes pc = .ok (.anewarray i, 3)) (hs : st = .int z :: rest) (hn : ¬ z < 0) (hcap : z.toNatClampNeg ≤ cap) (hb' : cap * 8 ≤ 536870912) (hc : k' ≤ rm.cells) (hl : n' ≤ rm.slots) (ek : k + 1 = k') (en : n + cap = n') (hp : pc + 3 = pc')
    (g : ∀ h' a kA, a = h.size → Ext h h' → Arv Z h' a kA (.array ty) z [] .null → Exa Z h' a ad → OvrA Z kA ty K → G w Q h' k' n' pc' Ls (.ref a :: rest)) : G w Q h k n pc Ls st := by
  subst hp ek en; intro T locs X eT N
  obtain ⟨T', h', kA, X', e', E, A, B, O, s'⟩ := newRA X C.ex C.hZ C.ow hC hw w2 eT (g := mkF w.m pc Ls st) rfl (C.dec hd) hs hn hcap hb' (by rw [C.ro]; exact hc) (by rw [C.ro]; exact hl) had
  exact G.to X' e' N s' (g h' _ kA rfl E (Arv.new A hn) B O)
theorem stoA {h : Heap} {a y : Addr} {kA : ClassId} {t0 ty : FieldType} {K : String} {z : Int32} {vs : List Value} {dv : Value} (A : Arv Z h a kA t0 z vs dv) (O : OvrA Z kA ty K) (E : Exa Z h y K) : Sto Z h a (.ref y) := by
  obtain ⟨c, Ar, q, -⟩ := A; exact Sto.ofVA Ar q O (Ins.self E)
theorem stoR {h : Heap} {a y : Addr} {kA : ClassId} {t0 : FieldType} {K : String} {z : Int32} {vs : List Value} {dv : Value} (A : Arv Z h a kA t0 z vs dv) (O : Ovr Z kA K) (I : Ins Z h y K true) : Sto Z h a (.ref y) := by
  obtain ⟨c, Ar, q, -⟩ := A; exact Sto.ofV Ar q O I
theorem g_cpA (C : Cx w l Z own bytes mx rt nm rm n0) {i : Nat} {a b : Addr} {k1 k2 : ClassId} {ty ty' : FieldType} {z z' sp dp nn : Int32} {vs vd us : List Value} {dv dd : Value}
    (w1 : (Jvm.Cond.methodLink own i Jvm.Stand.acN).before a0 Z = true) (w2 : (Jvm.Cond.native Jvm.Stand.acN).before a0 Z = true) (w3 : (Jvm.Cond.static Jvm.Stand.acN).before a0 Z = true) (w4 : (Jvm.Cond.initialized "java/lang/System").before a0 Z = true)
    (hd : decode bytes pc = .ok (.invokestatic i, 3)) (hs : st = .int nn :: .int dp :: .ref b :: .int sp :: .ref a :: rest) (hz : Ls.size = mx) (A : Arv Z h a k1 ty z vs dv) (B : Arv Z h b k2 ty' z' vd dd) (hty : (ty = ty' ∧ refKind ty = false) ∨ (refKind ty = true ∧ refKind ty' = true ∧ StoL Z h b us))
    (h1 : ¬ sp < 0) (h2 : ¬ dp < 0) (h3 : ¬ nn < 0) (h4 : sp.toNatClampNeg + nn.toNatClampNeg ≤ z.toNatClampNeg) (h5 : dp.toNatClampNeg + nn.toNatClampNeg ≤ z'.toNatClampNeg) (hus : us = (List.range nn.toNatClampNeg).map fun i => vs.getD (sp.toNatClampNeg + i) dv) (hlen : dp.toNatClampNeg + nn.toNatClampNeg ≤ vd.length) (ge : n0 ≤ b)
    (hf : 1 ≤ rm.frames) (hlo : (rest.map fun v => v.category).sum + (nativeFrameWords "java/lang/System" "arraycopy" 5 + 11) ≤ rm.locals) (hp : pc + 3 = pc')
    (g : ∀ h', Keep h h' [b] → Arv Z h' b k2 ty' z' (vd.take dp.toNatClampNeg ++ us ++ vd.drop (dp.toNatClampNeg + nn.toNatClampNeg)) dd → G w Q h' k n pc' Ls rest) : G w Q h k n pc Ls st := by
  subst hp; intro T locs X eT N
  obtain ⟨T', h', L, X', e', N', K, A', s'⟩ := cpA X C.ex C.hZ C.ow w1 w2 w3 w4 eT A B hty h1 h2 h3 h4 h5 hus hlen (n0 := w.n0) N (C.nn ▸ ge) (g := mkF w.m pc Ls st) rfl (hz.trans C.ml.symm) hs (C.dec hd) (by rw [C.ro]; exact hf) (W := (rest.map fun v => v.category).sum) (by show 2 * 0 + _ ≤ _; omega) (by rw [C.ro]; exact hlo)
  exact G.to X' e' N' s' (g h' K A')
/-! arrays by their values: an array fact (Arv) with a list of all its values -/
theorem arv_inb {a : Addr} {kA : ClassId} {ty : FieldType} {z j : Int32} {vs : List Value} {dv : Value} (A : Arv Z h a kA ty z vs dv) (q1 : ¬ j < 0) (q2 : j < z) : ∃ cl, Arr Z h a cl ty ∧ ¬ (j < 0 ∨ cl.slots.size ≤ j.toNatClampNeg) ∧ cl.slots[j.toNatClampNeg]? = some (vs.getD j.toNatClampNeg dv) := by
  obtain ⟨cl, Ar, -, S, -, H, -⟩ := A
  have hi := inb_of S ⟨q1, q2⟩
  exact ⟨cl, Ar, hi, H.at hi rfl⟩
theorem arv_put {h' : Heap} {a : Addr} {kA : ClassId} {ty : FieldType} {z j : Int32} {vs : List Value} {dv v : Value} (A : Arv Z h a kA ty z vs dv) (hv : fits ty v = true) (W : Wr h h' a j.toNatClampNeg v) {i : Nat} (hj : j.toNatClampNeg = i) (hi : i < vs.length) : Arv Z h' a kA ty z (vs.set i v) dv := by
  obtain ⟨cl, Ar, q1, S, q3, H, F⟩ := A
  exact Arv.set Ar q1 S q3 H F hv W i hj hi

theorem g_iaload (C : Cx w l Z own bytes mx rt nm rm n0) {a : Addr} {kA : ClassId} {z j : Int32} {vs : List Value} {dv : Value} {x : Int32} (hd : decode bytes pc = .ok (.iaload, 1)) (hs : st = .int j :: .ref a :: rest) (A : Arv Z h a kA .int z vs dv) (q1 : ¬ j < 0) (q2 : j < z) (hv : vs.getD j.toNatClampNeg dv = .int x) (hp : pc + 1 = pc') (g : G w Q h k n pc' Ls (.int x :: rest)) : G w Q h k n pc Ls st := by
  subst hp; intro T locs X eT N
  obtain ⟨cl, Ar, hi, hg⟩ := arv_inb A q1 q2
  rw [hv] at hg
  exact G.to X eT N (fun t r => X.iaload C.ex (j := j) (v := .int x) (by rw [eT]; exact Ar.1) (State.isArrayOf_alike C.hZ.alike Ar.2.1) Ar.2.2 hi hg (g := mkF w.m pc Ls st) rfl hs (C.dec hd) _ r) g
theorem g_laload (C : Cx w l Z own bytes mx rt nm rm n0) {a : Addr} {kA : ClassId} {z j : Int32} {vs : List Value} {dv : Value} {x : Int64} (hd : decode bytes pc = .ok (.laload, 1)) (hs : st = .int j :: .ref a :: rest) (A : Arv Z h a kA .long z vs dv) (q1 : ¬ j < 0) (q2 : j < z) (hv : vs.getD j.toNatClampNeg dv = .long x) (hp : pc + 1 = pc') (g : G w Q h k n pc' Ls (.long x :: rest)) : G w Q h k n pc Ls st := by
  subst hp; intro T locs X eT N
  obtain ⟨cl, Ar, hi, hg⟩ := arv_inb A q1 q2
  rw [hv] at hg
  exact G.to X eT N (fun t r => X.laload C.ex (j := j) (v := .long x) (by rw [eT]; exact Ar.1) (State.isArrayOf_alike C.hZ.alike Ar.2.1) Ar.2.2 hi hg (g := mkF w.m pc Ls st) rfl hs (C.dec hd) _ r) g
theorem g_baload (C : Cx w l Z own bytes mx rt nm rm n0) {a : Addr} {kA : ClassId} {z j : Int32} {vs : List Value} {dv : Value} {x : Int32} (hd : decode bytes pc = .ok (.baload, 1)) (hs : st = .int j :: .ref a :: rest) (A : Arv Z h a kA .byte z vs dv) (q1 : ¬ j < 0) (q2 : j < z) (hv : vs.getD j.toNatClampNeg dv = .int x) (hp : pc + 1 = pc') (g : G w Q h k n pc' Ls (.int x :: rest)) : G w Q h k n pc Ls st := by
  subst hp; intro T locs X eT N
  obtain ⟨cl, Ar, hi, hg⟩ := arv_inb A q1 q2
  rw [hv] at hg
  exact G.to X eT N (fun t r => X.baloadBytes C.ex (j := j) (v := .int x) (by rw [eT]; exact Ar.1) (State.isArrayOf_alike C.hZ.alike Ar.2.1) Ar.2.2 hi hg (g := mkF w.m pc Ls st) rfl hs (C.dec hd) _ r) g
theorem g_aaload (C : Cx w l Z own bytes mx rt nm rm n0) {a : Addr} {kA : ClassId} {ty : FieldType} {z j : Int32} {vs : List Value} {dv x : Value} (hd : decode bytes pc = .ok (.aaload, 1)) (hs : st = .int j :: .ref a :: rest) (A : Arv Z h a kA ty z vs dv) (hty : ty.isReference = true) (q1 : ¬ j < 0) (q2 : j < z) (hv : vs.getD j.toNatClampNeg dv = x) (hp : pc + 1 = pc') (g : G w Q h k n pc' Ls (x :: rest)) : G w Q h k n pc Ls st := by
  subst hp; intro T locs X eT N
  obtain ⟨cl, Ar, hi, hg⟩ := arv_inb A q1 q2
  rw [hv] at hg
  exact G.to X eT N (fun t r => X.aaload C.ex (j := j) (v := x) (by rw [eT]; exact Ar.1) (State.isArrayOf_alike C.hZ.alike Ar.2.1) hty Ar.2.2 hi hg (g := mkF w.m pc Ls st) rfl hs (C.dec hd) _ r) g
theorem g_alen (C : Cx w l Z own bytes mx rt nm rm n0) {a : Addr} {kA : ClassId} {ty : FieldType} {z : Int32} {vs : List Value} {dv : Value} (hd : decode bytes pc = .ok (.arraylength, 1)) (hs : st = .ref a :: rest) (A : Arv Z h a kA ty z vs dv) (hp : pc + 1 = pc') (g : G w Q h k n pc' Ls (.int z :: rest)) : G w Q h k n pc Ls st := by
  subst hp; intro T locs X eT N
  obtain ⟨cl, Ar, -, S, q3, -, -⟩ := A
  exact G.to X eT N (fun t r => X.arraylength C.ex (by rw [eT]; exact Ar.1) (State.isArrayOf_alike C.hZ.alike Ar.2.1) (g := mkF w.m pc Ls st) rfl hs (C.dec hd) _ (by rw [len_of S q3]; exact r)) g

theorem g_iastore (C : Cx w l Z own bytes mx rt nm rm n0) {a : Addr} {kA : ClassId} {z j : Int32} {vs : List Value} {dv : Value} {x : Int32} (hd : decode bytes pc = .ok (.iastore, 1)) (hs : st = .int x :: .int j :: .ref a :: rest) (A : Arv Z h a kA .int z vs dv) (q1 : ¬ j < 0) (q2 : j < z) (ge : n0 ≤ a) (hp : pc + 1 = pc')
    (g : ∀ h', Wr h h' a j.toNatClampNeg (.int x) → G w Q h' k n pc' Ls rest) : G w Q h k n pc Ls st := by
  subst hp; intro T locs X eT N
  obtain ⟨cl, Ar, hi, -⟩ := arv_inb A q1 q2
  obtain ⟨T', h', X', e', W, s'⟩ := stI X C.ex C.hZ eT Ar (j := j) hi (g := mkF w.m pc Ls st) rfl hs (C.dec hd)
  exact G.to X' e' (fr_snoc N (C.nn ▸ ge)) s' (g h' W)
theorem g_lastore (C : Cx w l Z own bytes mx rt nm rm n0) {a : Addr} {kA : ClassId} {z j : Int32} {vs : List Value} {dv : Value} {x : Int64} (hd : decode bytes pc = .ok (.lastore, 1)) (hs : st = .long x :: .int j :: .ref a :: rest) (A : Arv Z h a kA .long z vs dv) (q1 : ¬ j < 0) (q2 : j < z) (ge : n0 ≤ a) (hp : pc + 1 = pc')
    (g : ∀ h', Wr h h' a j.toNatClampNeg (.long x) → G w Q h' k n pc' Ls rest) : G w Q h k n pc Ls st := by
  subst hp; intro T locs X eT N
  obtain ⟨cl, Ar, hi, -⟩ := arv_inb A q1 q2
  obtain ⟨T', h', X', e', W, s'⟩ := stJ X C.ex C.hZ eT Ar (j := j) hi (g := mkF w.m pc Ls st) rfl hs (C.dec hd)
  exact G.to X' e' (fr_snoc N (C.nn ▸ ge)) s' (g h' W)
theorem g_bastore (C : Cx w l Z own bytes mx rt nm rm n0) {a : Addr} {kA : ClassId} {z j : Int32} {vs : List Value} {dv : Value} {x : Int32} (hd : decode bytes pc = .ok (.bastore, 1)) (hs : st = .int x :: .int j :: .ref a :: rest) (A : Arv Z h a kA .byte z vs dv) (q1 : ¬ j < 0) (q2 : j < z) (ge : n0 ≤ a) (hp : pc + 1 = pc')
    (g : ∀ h', Wr h h' a j.toNatClampNeg (.int (nar .byte x)) → G w Q h' k n pc' Ls rest) : G w Q h k n pc Ls st := by
  subst hp; intro T locs X eT N
  obtain ⟨cl, Ar, hi, -⟩ := arv_inb A q1 q2
  obtain ⟨T', h', X', e', W, s'⟩ := stB X C.ex C.hZ eT Ar (j := j) hi (g := mkF w.m pc Ls st) rfl hs (C.dec hd)
  exact G.to X' e' (fr_snoc N (C.nn ▸ ge)) s' (g h' W)
theorem g_aastore (C : Cx w l Z own bytes mx rt nm rm n0) {a : Addr} {kA : ClassId} {ty : FieldType} {z j : Int32} {vs : List Value} {dv x : Value} (hd : decode bytes pc = .ok (.aastore, 1)) (hs : st = x :: .int j :: .ref a :: rest) (A : Arv Z h a kA ty z vs dv) (hty : ty.isReference = true) (F : Sto Z h a x) (q1 : ¬ j < 0) (q2 : j < z) (ge : n0 ≤ a) (hp : pc + 1 = pc')
    (g : ∀ h', Wr h h' a j.toNatClampNeg x → G w Q h' k n pc' Ls rest) : G w Q h k n pc Ls st := by
  subst hp; intro T locs X eT N
  obtain ⟨cl, Ar, hi, -⟩ := arv_inb A q1 q2
  obtain ⟨T', h', X', e', W, s'⟩ := stR X C.ex C.hZ eT Ar (j := j) hi hty F (g := mkF w.m pc Ls st) rfl hs (C.dec hd)
  exact G.to X' e' (fr_snoc N (C.nn ▸ ge)) s' (g h' W)
/-! returns -/
theorem g_ret (C : Cx w l Z own bytes mx (some t) nm rm n0) {v : Value} {i : Instr} (hd : decode bytes pc = .ok (i, 1)) (hs : st = v :: rest) (hn : narrow t v = v)
    (hi : (i = .ireturn ∧ (t = .int ∨ t = .boolean ∨ t = .byte ∨ t = .char ∨ t = .short) ∧ ∃ z, v = .int z) ∨ (i = .lreturn ∧ t = .long ∧ ∃ z, v = .long z) ∨ (i = .dreturn ∧ t = .double ∧ ∃ z, v = .double z) ∨ (i = .freturn ∧ t = .float ∧ ∃ z, v = .float z) ∨ (i = .areturn ∧ t.isReference = true ∧ v.isRef = true))
    (hk : k ≤ rm.cells) (hnn : n ≤ rm.slots) (q : Q (some v) h) : G w Q h k n pc Ls st := by
  subst hs; intro T locs X eT N
  obtain ⟨fs, hr, hrun, hended, hW, hsame⟩ := X.leave (v := some v) (fun h => by rw [C.ret] at h; cases h) C.lk
  exact ⟨_, _, retOut X C.ex C.ret hn hi (C.dec hd) hr, hrun, hended, _, locs, rfl, ⟨by show Q _ T.heap; rw [eT]; exact q, N⟩, ⟨_, rfl⟩, hW, hsame.mono (by rw [C.ro]; exact hk) (by rw [C.ro]; exact hnn)⟩
theorem g_ireturn (C : Cx w l Z own bytes mx (some .int) nm rm n0) {z : Int32} (hd : decode bytes pc = .ok (.ireturn, 1)) (hs : st = .int z :: rest) (hk : k ≤ rm.cells) (hnn : n ≤ rm.slots) (q : Q (some (.int z)) h) : G w Q h k n pc Ls st :=
  g_ret C hd hs rfl (Or.inl ⟨rfl, Or.inl rfl, z, rfl⟩) hk hnn q
theorem g_zreturn (C : Cx w l Z own bytes mx (some .boolean) nm rm n0) {z : Int32} (hd : decode bytes pc = .ok (.ireturn, 1)) (hs : st = .int z :: rest) (hn : narrow .boolean (.int z) = .int z) (hk : k ≤ rm.cells) (hnn : n ≤ rm.slots) (q : Q (some (.int z)) h) : G w Q h k n pc Ls st :=
  g_ret C hd hs hn (Or.inl ⟨rfl, Or.inr (Or.inl rfl), z, rfl⟩) hk hnn q
theorem g_breturn (C : Cx w l Z own bytes mx (some .byte) nm rm n0) {z : Int32} (hd : decode bytes pc = .ok (.ireturn, 1)) (hs : st = .int z :: rest) (hn : narrow .byte (.int z) = .int z) (hk : k ≤ rm.cells) (hnn : n ≤ rm.slots) (q : Q (some (.int z)) h) : G w Q h k n pc Ls st :=
  g_ret C hd hs hn (Or.inl ⟨rfl, Or.inr (Or.inr (Or.inl rfl)), z, rfl⟩) hk hnn q
theorem g_lreturn (C : Cx w l Z own bytes mx (some .long) nm rm n0) {z : Int64} (hd : decode bytes pc = .ok (.lreturn, 1)) (hs : st = .long z :: rest) (hk : k ≤ rm.cells) (hnn : n ≤ rm.slots) (q : Q (some (.long z)) h) : G w Q h k n pc Ls st :=
  g_ret C hd hs rfl (Or.inr (Or.inl ⟨rfl, rfl, z, rfl⟩)) hk hnn q
theorem g_areturn (C : Cx w l Z own bytes mx (some t) nm rm n0) {v : Value} (hd : decode bytes pc = .ok (.areturn, 1)) (hs : st = v :: rest) (ht : t.isReference = true) (hv : v.isRef = true) (hn : narrow t v = v) (hk : k ≤ rm.cells) (hnn : n ≤ rm.slots) (q : Q (some v) h) : G w Q h k n pc Ls st :=
  g_ret C hd hs hn (Or.inr (Or.inr (Or.inr (Or.inr ⟨rfl, ht, hv⟩)))) hk hnn q
theorem g_return (C : Cx w l Z own bytes mx none nm rm n0) (hd : decode bytes pc = .ok (.return_, 1)) (hs : st = []) (hk : k ≤ rm.cells) (hnn : n ≤ rm.slots) (q : Q none h) : G w Q h k n pc Ls st := by
  subst hs; intro T locs X eT N
  obtain ⟨fs, hr, hrun, hended, hW, hsame⟩ := X.leave (v := none) (fun _ => rfl) C.lk
  exact ⟨_, _, X.returnOut C.ex C.ret (C.dec hd) hr, hrun, hended, _, locs, rfl, ⟨by show Q _ T.heap; rw [eT]; exact q, N⟩, ⟨_, rfl⟩, hW, hsame.mono (by rw [C.ro]; exact hk) (by rw [C.ro]; exact hnn)⟩
/-! calls by the callee's contract -/
theorem g_fin {rm' : Room} {Q' : Option Value → Heap → Prop} {T : State} {locs : List Loc} {as : Array Value} {v : Option Value} {B : Pt} {A : Pt} (C : Cx w l Z own bytes mx rt nm rm n0) (hA : A.locs = locs ∧ A.cells = k ∧ A.slots = n)
    (X' : Stand w.p w.l w.e w.R w.s w.m w.args w.below w.meth w.c B.U B.locs B.cells B.slots) (hQ : ∃ L, (Q' v B.U.heap ∧ Fr n0 L) ∧ B.locs = A.locs ++ L ∧ B.cells = A.cells + rm'.cells ∧ B.slots = A.slots + rm'.slots) (N : Fr w.n0 locs)
    (g : ∀ v h', Q' v h' → G w Q h' (k + rm'.cells) (n + rm'.slots) pc' Ls (psh v rest)) (s' : ∀ t, Steps w.p.tables w.e w.below (B.U.setTop (mkF w.m pc' Ls (v.toList ++ rest))) t → Steps w.p.tables w.e w.below (T.setTop (mkF w.m pc Ls st)) t) : Ends w Q (T.setTop (mkF w.m pc Ls st)) := by
  obtain ⟨T', L', k', n'⟩ := B
  obtain ⟨L, ⟨hq, hL⟩, e1, e2, e3⟩ := hQ
  obtain ⟨a1, a2, a3⟩ := hA
  dsimp only [Pt.U, Pt.locs, Pt.cells, Pt.slots] at X' hq e1 e2 e3 s' a1 a2 a3
  subst a1 a2 a3 e1 e2 e3
  rw [psh_eq] at s'
  exact G.to X' rfl (N.app (C.nn ▸ hL)) s' (g v _ hq)
theorem g_callS (C : Cx w l Z own bytes mx rt nm rm n0) {y : MethodName} {i mL : Nat} {bs : ByteArray} {rt' : Option FieldType} {rm' : Room} {Q' : Option Value → Heap → Prop} {argsL : List Value} {ps : List FieldType} {r : Option FieldType}
    (w1 : (Jvm.Cond.methodLink own i y).before a0 Z = true) (w2 : (Jvm.Cond.static y).before a0 Z = true) (w3 : (Jvm.Cond.initialized y.cls).before a0 Z = true) (w4 : (Jvm.Cond.code y bs mL rt').before a0 Z = true) (hy : y.cls ≠ "java/lang/invoke/MethodHandle" ∧ y.cls ≠ "java/lang/invoke/VarHandle")
    (hd : decode bytes pc = .ok (.invokestatic i, 3)) (pd : parseMethodDescriptor y.desc = some ⟨ps, r⟩) (hlen : argsL.length = ps.length) (hst : st = argsL.reverse ++ rest) (hz : Ls.size = mx)
    (K : Con l Z y bs mL rt' rm' argsL.toArray h n0 Q') (hf : rm'.frames + 1 ≤ rm.frames) (hl : (rest.map fun v => v.category).sum + (mL + 11) + rm'.locals ≤ rm.locals) (hc : k' ≤ rm.cells) (hn : n' ≤ rm.slots) (ek : k + rm'.cells = k') (en : n + rm'.slots = n') (hp : pc + 3 = pc')
    (g : ∀ v h', Q' v h' → G w Q h' k' n' pc' Ls (psh v rest)) : G w Q h k n pc Ls st := by
  subst hp ek en; intro T locs X eT N
  have hl0 : w.l = l := C.1
  subst hl0
  obtain ⟨v, vm₁, B, -, X', hQ, s'⟩ := Jvm.LawKit.callS X C.ex C.ow (mvT C.hZ w1) (mvT C.hZ w2) (mvT C.hZ w3) (mvT C.hZ w4) hy (backOf (W := (rest.map fun v => v.category).sum) (Q := fun v h L => Q' v h ∧ Fr n0 L) (K []) C.hZ w4 w3 (by rw [C.ro]; exact hf) (by rw [C.ro]; exact hl)) (g := mkF w.m pc Ls st) rfl (hz.trans C.ml.symm) (argsL := argsL) (rest := rest) (lenOf pd hlen) hst (by show 2 * 0 + _ ≤ _; omega) (C.dec hd) (fun _ _ => ⟨rfl, eT, by rw [C.ro]; exact hc, by rw [C.ro]; exact hn⟩)
  exact g_fin (T := T) (as := argsL.toArray) (A := (⟨T.setVm vm₁, locs, k, n⟩ : Pt)) C ⟨rfl, rfl, rfl⟩ X' hQ N g s'
theorem g_special (C : Cx w l Z own bytes mx rt nm rm n0) {y : MethodName} {i mL : Nat} {bs : ByteArray} {rm' : Room} {Q' : Option Value → Heap → Prop} {a : Addr} {argsL : List Value} {ps : List FieldType} {r : Option FieldType}
    (w1 : (Jvm.Cond.methodLink own i y).before a0 Z = true) (w2 : (Jvm.Cond.instanceMethod y).before a0 Z = true) (w3 : (Jvm.Cond.initialized y.cls).before a0 Z = true) (w4 : (Jvm.Cond.code y bs mL none).before a0 Z = true) (hy : y.cls ≠ "java/lang/invoke/MethodHandle" ∧ y.cls ≠ "java/lang/invoke/VarHandle") (hy1 : y.name = "<init>")
    (hd : decode bytes pc = .ok (.invokespecial i, 3)) (pd : parseMethodDescriptor y.desc = some ⟨ps, r⟩) (hlen : argsL.length = ps.length) (hst : st = argsL.reverse ++ .ref a :: rest) (hz : Ls.size = mx)
    (K : Con l Z y bs mL none rm' (.ref a :: argsL).toArray h n0 Q') (hf : rm'.frames + 1 ≤ rm.frames) (hl : (rest.map fun v => v.category).sum + (mL + 11) + rm'.locals ≤ rm.locals) (hc : k' ≤ rm.cells) (hn : n' ≤ rm.slots) (ek : k + rm'.cells = k') (en : n + rm'.slots = n') (hp : pc + 3 = pc')
    (g : ∀ v h', Q' v h' → G w Q h' k' n' pc' Ls (psh v rest)) : G w Q h k n pc Ls st := by
  subst hp ek en; intro T locs X eT N
  have hl0 : w.l = l := C.1
  subst hl0
  obtain ⟨v, vm₁, B, -, X', hQ, s'⟩ := X.specialBack C.ex hy1 C.ow (mvT C.hZ w1) (mvT C.hZ w2) (mvT C.hZ w4) hy (backOf (W := (rest.map fun v => v.category).sum) (Q := fun v h L => Q' v h ∧ Fr n0 L) (K []) C.hZ w4 w3 (by rw [C.ro]; exact hf) (by rw [C.ro]; exact hl)) (g := mkF w.m pc Ls st) rfl (hz.trans C.ml.symm) (Steps.refl _) (a := a) (argsL := argsL) (rest := rest) (lenOf pd hlen) hst (by show 2 * 0 + _ ≤ _; omega) (C.dec hd) (fun _ _ => ⟨rfl, eT, by rw [C.ro]; exact hc, by rw [C.ro]; exact hn⟩)
  exact g_fin (T := T) (as := argsL.toArray) (A := (⟨T.setVm vm₁, locs, k, n⟩ : Pt)) C ⟨rfl, rfl, rfl⟩ X' hQ N g (fun t r => s'.trans r)
theorem g_virtual (C : Cx w l Z own bytes mx rt nm rm n0) {y z : MethodName} {B : String} {i mL : Nat} {bs : ByteArray} {rt' : Option FieldType} {rm' : Room} {Q' : Option Value → Heap → Prop} {a : Addr} {argsL : List Value} {ps : List FieldType} {r : Option FieldType}
    (w1 : (Jvm.Cond.methodLink own i y).before a0 Z = true) (w2 : (Jvm.Cond.declares y).before a0 Z = true) (nf : ∀ {s : State}, Z.Warmed39 s.vm → NotFace s y) (ws : (Jvm.Cond.selects B y z).before a0 Z = true) (w5 : (Jvm.Cond.instanceMethod z).before a0 Z = true) (w3 : (Jvm.Cond.initialized z.cls).before a0 Z = true) (w4 : (Jvm.Cond.code z bs mL rt').before a0 Z = true) (hy : y.cls ≠ "java/lang/invoke/MethodHandle" ∧ y.cls ≠ "java/lang/invoke/VarHandle")
    (hd : decode bytes pc = .ok (.invokevirtual i, 3)) (pd : parseMethodDescriptor y.desc = some ⟨ps, r⟩) (hlen : argsL.length = ps.length) (hst : st = argsL.reverse ++ .ref a :: rest) (hz : Ls.size = mx) (E : Exa Z h a B)
    (K : Con l Z z bs mL rt' rm' (.ref a :: argsL).toArray h n0 Q') (hf : rm'.frames + 1 ≤ rm.frames) (hl : (rest.map fun v => v.category).sum + (mL + 11) + rm'.locals ≤ rm.locals) (hc : k' ≤ rm.cells) (hn : n' ≤ rm.slots) (ek : k + rm'.cells = k') (en : n + rm'.slots = n') (hp : pc + 3 = pc')
    (g : ∀ v h', Q' v h' → G w Q h' k' n' pc' Ls (psh v rest)) : G w Q h k n pc Ls st := by
  subst hp ek en; intro T locs X eT N
  have hl0 : w.l = l := C.1
  subst hl0
  obtain ⟨cq, kq, q1, q2, q3⟩ := isOf C.hZ eT E
  obtain ⟨v, vm₁, B, -, X', hQ, s'⟩ := X.virtualBack C.ex C.ow (mvT C.hZ w1) (mvT C.hZ w2) (nf C.hZ) (mvT C.hZ ws) (mvT C.hZ w5) hy (backOf (W := (rest.map fun v => v.category).sum) (Q := fun v h L => Q' v h ∧ Fr n0 L) (K []) C.hZ w4 w3 (by rw [C.ro]; exact hf) (by rw [C.ro]; exact hl)) q1 q3 (g := mkF w.m pc Ls st) rfl (hz.trans C.ml.symm) (Steps.refl _) (argsL := argsL) (rest := rest) (lenOf pd hlen) hst (by show 2 * 0 + _ ≤ _; omega) (C.dec hd) (fun _ _ => ⟨rfl, eT, by rw [C.ro]; exact hc, by rw [C.ro]; exact hn⟩)
  exact g_fin (T := T) (as := argsL.toArray) (A := (⟨T.setVm vm₁, locs, k, n⟩ : Pt)) C ⟨rfl, rfl, rfl⟩ X' hQ N g (fun t r => s'.trans r)
theorem nfSel {y : MethodName} {B : String} (ws : (Jvm.Cond.selects B y y).before a0 Z = true) : ∀ {s : State}, Z.Warmed39 s.vm → NotFace s y := fun hZ => notFace_of_selects (args := #[]) (mvT hZ ws)
theorem g_virtualUp (C : Cx w l Z own bytes mx rt nm rm n0) {y z : MethodName} {B owner : String} {i mL : Nat} {bs : ByteArray} {rt' : Option FieldType} {rm' : Room} {Q' : Option Value → Heap → Prop} {a : Addr} {argsL : List Value} {ps : List FieldType} {r : Option FieldType}
    (w1 : (Jvm.Cond.methodLink own i y).before a0 Z = true) (wm : (Jvm.Cond.sameMethod y.cls owner y.name y.desc).before a0 Z = true) (w2 : (Jvm.Cond.declares ⟨owner, y.name, y.desc⟩).before a0 Z = true) (ho : owner ≠ "java/lang/invoke/MethodHandle" ∧ owner ≠ "java/lang/invoke/VarHandle") (ws : (Jvm.Cond.selects B y z).before a0 Z = true) (w5 : (Jvm.Cond.instanceMethod z).before a0 Z = true) (w3 : (Jvm.Cond.initialized z.cls).before a0 Z = true) (w4 : (Jvm.Cond.code z bs mL rt').before a0 Z = true)
    (hd : decode bytes pc = .ok (.invokevirtual i, 3)) (pd : parseMethodDescriptor y.desc = some ⟨ps, r⟩) (hlen : argsL.length = ps.length) (hst : st = argsL.reverse ++ .ref a :: rest) (hz : Ls.size = mx) (E : Exa Z h a B)
    (K : Con l Z z bs mL rt' rm' (.ref a :: argsL).toArray h n0 Q') (hf : rm'.frames + 1 ≤ rm.frames) (hl : (rest.map fun v => v.category).sum + (mL + 11) + rm'.locals ≤ rm.locals) (hc : k' ≤ rm.cells) (hn : n' ≤ rm.slots) (ek : k + rm'.cells = k') (en : n + rm'.slots = n') (hp : pc + 3 = pc')
    (g : ∀ v h', Q' v h' → G w Q h' k' n' pc' Ls (psh v rest)) : G w Q h k n pc Ls st := by
  subst hp ek en; intro T locs X eT N
  have hl0 : w.l = l := C.1
  subst hl0
  obtain ⟨cq, kq, q1, q2, q3⟩ := isOf C.hZ eT E
  obtain ⟨v, vm₁, B, -, X', hQ, s'⟩ := X.virtualBackUp C.ex C.ow (mvT C.hZ w1) (mvT C.hZ wm) (mvT C.hZ w2) ho (mvT C.hZ ws) (mvT C.hZ w5) (backOf (W := (rest.map fun v => v.category).sum) (Q := fun v h L => Q' v h ∧ Fr n0 L) (K []) C.hZ w4 w3 (by rw [C.ro]; exact hf) (by rw [C.ro]; exact hl)) q1 q3 (g := mkF w.m pc Ls st) rfl (hz.trans C.ml.symm) (Steps.refl _) (argsL := argsL) (rest := rest) (lenOf pd hlen) hst (by show 2 * 0 + _ ≤ _; omega) (C.dec hd) (fun _ _ => ⟨rfl, eT, by rw [C.ro]; exact hc, by rw [C.ro]; exact hn⟩)
  exact g_fin (T := T) (as := argsL.toArray) (A := (⟨T.setVm vm₁, locs, k, n⟩ : Pt)) C ⟨rfl, rfl, rfl⟩ X' hQ N g (fun t r => s'.trans r)
theorem g_interface (C : Cx w l Z own bytes mx rt nm rm n0) {y z : MethodName} {B : String} {count : Nat} {i mL : Nat} {bs : ByteArray} {rt' : Option FieldType} {rm' : Room} {Q' : Option Value → Heap → Prop} {a : Addr} {argsL : List Value} {ps : List FieldType} {r : Option FieldType}
    (w1 : (Jvm.Cond.methodLink own i y).before a0 Z = true) (w2 : (Jvm.Cond.declares y).before a0 Z = true) (wf : (Jvm.Cond.interfaceMethod y.cls y.cls y.name y.desc).before a0 Z = true) (hfa : ((Jvm.Cond.interfaceMethod y.cls y.cls y.name y.desc).onTables && (Jvm.Cond.interfaceMethod y.cls y.cls y.name y.desc).keepsFace) = true) (ws : (Jvm.Cond.selects B y z).before a0 Z = true) (w5 : (Jvm.Cond.instanceMethod z).before a0 Z = true) (wp : (Jvm.Cond.publicMethod z).before a0 Z = true) (wu : (Jvm.Cond.unhidden B y.name y.desc).before a0 Z = true) (wk : (Jvm.Cond.castable B y.cls).before a0 Z = true) (w3 : (Jvm.Cond.initialized z.cls).before a0 Z = true) (w4 : (Jvm.Cond.code z bs mL rt').before a0 Z = true) (hy : y.cls ≠ "java/lang/invoke/MethodHandle" ∧ y.cls ≠ "java/lang/invoke/VarHandle")
    (hd : decode bytes pc = .ok (.invokeinterface i count, 5)) (pd : parseMethodDescriptor y.desc = some ⟨ps, r⟩) (hlen : argsL.length = ps.length) (hst : st = argsL.reverse ++ .ref a :: rest) (hz : Ls.size = mx) (E : Exa Z h a B)
    (K : Con l Z z bs mL rt' rm' (.ref a :: argsL).toArray h n0 Q') (hf : rm'.frames + 1 ≤ rm.frames) (hl : (rest.map fun v => v.category).sum + (mL + 11) + rm'.locals ≤ rm.locals) (hc : k' ≤ rm.cells) (hn : n' ≤ rm.slots) (ek : k + rm'.cells = k') (en : n + rm'.slots = n') (hp : pc + 5 = pc')
    (g : ∀ v h', Q' v h' → G w Q h' k' n' pc' Ls (psh v rest)) : G w Q h k n pc Ls st := by
  subst hp ek en; intro T locs X eT N
  have hl0 : w.l = l := C.1
  subst hl0
  obtain ⟨cq, kq, q1, q2, q3⟩ := isOf C.hZ eT E
  obtain ⟨v, vm₁, B, -, X', hQ, s'⟩ := X.interfaceBack C.ex C.ow (mvT C.hZ w1) (mvT C.hZ w2) (mvT C.hZ wf hfa) (mvT C.hZ ws) (mvT C.hZ w5) (mvT C.hZ wp) (mvT C.hZ wu) (mvT C.hZ wk) hy (backOf (W := (rest.map fun v => v.category).sum) (Q := fun v h L => Q' v h ∧ Fr n0 L) (K []) C.hZ w4 w3 (by rw [C.ro]; exact hf) (by rw [C.ro]; exact hl)) q1 q2 q3 (g := mkF w.m pc Ls st) rfl (hz.trans C.ml.symm) (Steps.refl _) (argsL := argsL) (rest := rest) (lenOf pd hlen) hst (by show 2 * 0 + _ ≤ _; omega) (C.dec hd) (fun _ _ => ⟨rfl, eT, by rw [C.ro]; exact hc, by rw [C.ro]; exact hn⟩)
  exact g_fin (T := T) (as := argsL.toArray) (A := (⟨T.setVm vm₁, locs, k, n⟩ : Pt)) C ⟨rfl, rfl, rfl⟩ X' hQ N g (fun t r => s'.trans r)
theorem g_private (C : Cx w l Z own bytes mx rt nm rm n0) {y : MethodName} {B : String} {kk i mL : Nat} {bs : ByteArray} {rt' : Option FieldType} {rm' : Room} {Q' : Option Value → Heap → Prop} {a : Addr} {argsL : List Value} {ps : List FieldType} {r : Option FieldType}
    (w1 : (Jvm.Cond.methodLink own i y).before a0 Z = true) (w5 : (Jvm.Cond.instanceMethod y).before a0 Z = true) (wi : (Jvm.Cond.instantiable y.cls kk).before a0 Z = true) (wp : (Jvm.Cond.privateMethod y).before a0 Z = true) (w3 : (Jvm.Cond.initialized y.cls).before a0 Z = true) (w4 : (Jvm.Cond.code y bs mL rt').before a0 Z = true) (hy : y.cls ≠ "java/lang/invoke/MethodHandle" ∧ y.cls ≠ "java/lang/invoke/VarHandle")
    (hd : decode bytes pc = .ok (.invokevirtual i, 3)) (pd : parseMethodDescriptor y.desc = some ⟨ps, r⟩) (hlen : argsL.length = ps.length) (hst : st = argsL.reverse ++ .ref a :: rest) (hz : Ls.size = mx) (E : Exa Z h a B)
    (K : Con l Z y bs mL rt' rm' (.ref a :: argsL).toArray h n0 Q') (hf : rm'.frames + 1 ≤ rm.frames) (hl : (rest.map fun v => v.category).sum + (mL + 11) + rm'.locals ≤ rm.locals) (hc : k' ≤ rm.cells) (hn : n' ≤ rm.slots) (ek : k + rm'.cells = k') (en : n + rm'.slots = n') (hp : pc + 3 = pc')
    (g : ∀ v h', Q' v h' → G w Q h' k' n' pc' Ls (psh v rest)) : G w Q h k n pc Ls st := by
  subst hp ek en; intro T locs X eT N
  have hl0 : w.l = l := C.1
  subst hl0
  obtain ⟨cq, q1, q2⟩ := E.cell
  have wi' : (Jvm.Cond.instantiable y.cls kk).before w.args w.s = true := mvT C.hZ wi
  obtain ⟨c2, k2, i1, i2, -, i4, -⟩ := Cond.instantiable_spec wi'
  have hni : k2.isInterface = false := (Bool.or_eq_false_iff.mp i4).1
  have hpv := Cond.privateMethod_at (mvP C.hZ wp (args := w.args))
  obtain ⟨v, vm₁, B, -, X', hQ, s'⟩ := X.privateBack C.ex C.ow (mvT C.hZ w1) (mvT C.hZ w5) (selects_self_of_private i1 i2 hni hpv (mvT C.hZ w5) hy) hpv (mvT C.hZ w4) hy (backOf (W := (rest.map fun v => v.category).sum) (Q := fun v h L => Q' v h ∧ Fr n0 L) (K []) C.hZ w4 w3 (by rw [C.ro]; exact hf) (by rw [C.ro]; exact hl)) (g := mkF w.m pc Ls st) rfl (hz.trans C.ml.symm) (Steps.refl _) (a := a) (by rw [eT]; exact q1) q2 (argsL := argsL) (rest := rest) (lenOf pd hlen) hst (by show 2 * 0 + _ ≤ _; omega) (C.dec hd) (fun _ _ => ⟨rfl, eT, by rw [C.ro]; exact hc, by rw [C.ro]; exact hn⟩)
  exact g_fin (T := T) (as := argsL.toArray) (A := (⟨T.setVm vm₁, locs, k, n⟩ : Pt)) C ⟨rfl, rfl, rfl⟩ X' hQ N g (fun t r => s'.trans r)
theorem g_lswHit (C : Cx w l Z own bytes mx rt nm rm n0) {df : Int} {prs : Array (Int × Int)} {len : Nat} {a o : Int} {i : Int32} (hd : decode bytes pc = .ok (.lookupswitch df prs, len)) (hs : st = .int i :: rest) (hso : (prs.toList.zip (prs.toList.drop 1)).all (fun (a, next) => a.1 < next.1) = true) (hf : prs.find? (·.1 == i.toInt) = some (a, o)) (ho : 0 ≤ (pc : Int) + o) (hp : ((pc : Int) + o).toNat = pc') (g : G w Q h k n pc' Ls rest) : G w Q h k n pc Ls st := by
  subst hp; exact g.adv fun T locs X _ t r => X.lookupswitchHit C.ex (g := mkF w.m pc Ls st) rfl hs (C.dec hd) hso hf ho t r
theorem g_lswMiss (C : Cx w l Z own bytes mx rt nm rm n0) {df : Int} {prs : Array (Int × Int)} {len : Nat} {i : Int32} (hd : decode bytes pc = .ok (.lookupswitch df prs, len)) (hs : st = .int i :: rest) (hso : (prs.toList.zip (prs.toList.drop 1)).all (fun (a, next) => a.1 < next.1) = true) (hf : prs.find? (·.1 == i.toInt) = none) (ho : 0 ≤ (pc : Int) + df) (hp : ((pc : Int) + df).toNat = pc') (g : G w Q h k n pc' Ls rest) : G w Q h k n pc Ls st := by
  subst hp; exact g.adv fun T locs X _ t r => X.lookupswitchMiss C.ex (g := mkF w.m pc Ls st) rfl hs (C.dec hd) hso hf ho t r
end Gs
theorem wd {Z : State} {a0 : Array Value} (hw : ∀ d ∈ tables_1, d.before a0 Z = true) (i : Nat) {d : Jvm.Cond} (e : tables_1[i]? = some d) : d.before a0 Z = true := hw _ (List.mem_of_getElem? e)
theorem own_fldInt {args : Array Value} {s : State} {t : Term} {a : Addr} {C f d : String} {k : Int32} (ev : t.eval args s none [] s = some (.ref a)) (h : (Jvm.Cond.eq (.field t C f d) (.int k)).value args s none s [] = some true) : Fld s s.heap a C f d (.int k) := by
  obtain ⟨x, y, hx, hy, k1, k2⟩ := cmp_v (Or.inl h)
  cases (Term.int_eval k).symm.trans hy
  obtain ⟨z, rfl⟩ : ∃ z, x = .int z := by simpa [Kin] using k2
  have e : z = k := by simpa [Jvm.Cond.value, hx, hy] using h
  subst e
  rw [fld_at ev] at hx
  exact Fld.start hx
theorem own_fldLong {args : Array Value} {s : State} {t : Term} {a : Addr} {C f d : String} {k : Int64} (ev : t.eval args s none [] s = some (.ref a)) (h : (Jvm.Cond.eq (.field t C f d) (.long k)).value args s none s [] = some true) : Fld s s.heap a C f d (.long k) := by
  obtain ⟨x, y, hx, hy, k1, k2⟩ := cmp_v (Or.inl h)
  cases (long_at k).symm.trans hy
  obtain ⟨z, rfl⟩ : ∃ z, x = .long z := by simpa [Kin] using k2
  have e : z = k := by simpa [Jvm.Cond.value, hx, hy] using h
  subst e
  rw [fld_at ev] at hx
  exact Fld.start hx
theorem own_staLong {args : Array Value} {s : State} {t : Term} {k : Int64} (h : (Jvm.Cond.eq t (.long k)).value args s none s [] = some true) : t.eval args s none [] s = some (.long k) := by
  obtain ⟨x, y, hx, hy, k1, k2⟩ := cmp_v (Or.inl h)
  cases (long_at k).symm.trans hy
  obtain ⟨z, rfl⟩ : ∃ z, x = .long z := by simpa [Kin] using k2
  have e : z = k := by simpa [Jvm.Cond.value, hx, hy] using h
  subst e
  exact hx
theorem own_staInt {args : Array Value} {s : State} {t : Term} {k : Int32} (h : (Jvm.Cond.eq t (.int k)).value args s none s [] = some true) : t.eval args s none [] s = some (.int k) := by
  obtain ⟨x, y, hx, hy, k1, k2⟩ := cmp_v (Or.inl h)
  cases (Term.int_eval k).symm.trans hy
  obtain ⟨z, rfl⟩ : ∃ z, x = .int z := by simpa [Kin] using k2
  have e : z = k := by simpa [Jvm.Cond.value, hx, hy] using h
  subst e
  exact hx
theorem own_ine {i j : Int32} (h : i ≠ j) : (Value.int i) ≠ .int j := fun q => h (by injection q)
theorem own_mask31 (x : Int32) : 0 ≤ (x &&& 2147483647).toInt ∧ (x &&& 2147483647).toInt < 2147483648 := by
  have := c_mask x 2147483647 31 (by decide) (by decide)
  rw [this]; omega
def IL (Z : State) (n0 : Nat) (h : Heap) (a bl d : Addr) (kB kD : ClassId) (s z : Int32) (vs : List Value) : Prop :=
  n0 ≤ a ∧ n0 ≤ bl ∧ n0 ≤ d ∧ a ≠ bl ∧ a ≠ d ∧ bl ≠ d ∧ OvrA Z kB .int "[I" ∧ Exa Z h a "com/example/ratatoskr/ratatoskr/index/IntList" ∧ Fld Z h a "com/example/ratatoskr/ratatoskr/index/IntList" "blocks" "[[I" (.ref bl) ∧ Fld Z h a "com/example/ratatoskr/ratatoskr/index/IntList" "size" "I" (.int s) ∧ Arv Z h bl kB (.array .int) (1 : Int32) [.ref d] .null ∧ Arv Z h d kD .int z vs (.int (0 : Int32))
theorem own_mod1 (x : Int32) : ((x &&& (2147483647 : Int32)) % (1 : Int32)) = (0 : Int32) := by
  have h1 := own_mask31 x
  have h2 : ((x &&& (2147483647 : Int32)) % (1 : Int32)).toInt = (x &&& 2147483647).toInt.tmod 1 := by rw [Int32.toInt_mod]; rfl
  rw [Int.tmod_eq_emod_of_nonneg h1.1] at h2
  simp only [← Int32.toInt_inj, h2]
  have h3 : (x &&& 2147483647).toInt % 1 = 0 := by omega
  simp [h3]
theorem own_mod2 (x : Int32) : ((x &&& (2147483647 : Int32)) % (2 : Int32)) = (0 : Int32) ∨ ((x &&& (2147483647 : Int32)) % (2 : Int32)) = (1 : Int32) := by
  have h1 := own_mask31 x
  have h2 : ((x &&& (2147483647 : Int32)) % (2 : Int32)).toInt = (x &&& 2147483647).toInt.tmod 2 := by rw [Int32.toInt_mod]; rfl
  rw [Int.tmod_eq_emod_of_nonneg h1.1] at h2
  simp only [← Int32.toInt_inj, h2]
  have h3 : (x &&& 2147483647).toInt % 2 = 0 ∨ (x &&& 2147483647).toInt % 2 = 1 := by omega
  rcases h3 with h | h <;> simp [h]
theorem own_mod3 (x : Int32) : ((x &&& (2147483647 : Int32)) % (3 : Int32)) = (0 : Int32) ∨ ((x &&& (2147483647 : Int32)) % (3 : Int32)) = (1 : Int32) ∨ ((x &&& (2147483647 : Int32)) % (3 : Int32)) = (2 : Int32) := by
  have h1 := own_mask31 x
  have h2 : ((x &&& (2147483647 : Int32)) % (3 : Int32)).toInt = (x &&& 2147483647).toInt.tmod 3 := by rw [Int32.toInt_mod]; rfl
  rw [Int.tmod_eq_emod_of_nonneg h1.1] at h2
  simp only [← Int32.toInt_inj, h2]
  have h3 : (x &&& 2147483647).toInt % 3 = 0 ∨ (x &&& 2147483647).toInt % 3 = 1 ∨ (x &&& 2147483647).toInt % 3 = 2 := by omega
  rcases h3 with h | h | h <;> simp [h]
theorem d1_0 : decode prog_10_method_1_code 0 = .ok (.aload_n 0, 1) := by decide +kernel
theorem d1_1 : decode prog_10_method_1_code 1 = .ok (.invokespecial 3, 3) := by decide +kernel
theorem d1_4 : decode prog_10_method_1_code 4 = .ok (.aload_n 0, 1) := by decide +kernel
theorem d1_5 : decode prog_10_method_1_code 5 = .ok (.iconst 1, 1) := by decide +kernel
theorem d1_6 : decode prog_10_method_1_code 6 = .ok (.anewarray 9, 3) := by decide +kernel
theorem d1_9 : decode prog_10_method_1_code 9 = .ok (.dup, 1) := by decide +kernel
theorem d1_10 : decode prog_10_method_1_code 10 = .ok (.iconst 0, 1) := by decide +kernel
theorem d1_11 : decode prog_10_method_1_code 11 = .ok (.bipush 8, 2) := by decide +kernel
theorem d1_13 : decode prog_10_method_1_code 13 = .ok (.newarray .int, 2) := by decide +kernel
theorem d1_15 : decode prog_10_method_1_code 15 = .ok (.aastore, 1) := by decide +kernel
theorem d1_16 : decode prog_10_method_1_code 16 = .ok (.putfield 11, 3) := by decide +kernel
theorem d1_19 : decode prog_10_method_1_code 19 = .ok (.return_, 1) := by decide +kernel
theorem pn_0 : plainName "com/example/ratatoskr/ratatoskr/index/IntList" = true := by first | (simp [plainName, overriddenIn]; done) | decide +kernel
set_option maxRecDepth 65536 in
set_option maxHeartbeats 40000000 in
theorem il_init (l : Launch) (Z : State) (a0 : Array Value) (hw : ∀ d ∈ tables_1, d.before a0 Z = true) (n0 : Nat) (h : Heap) (O : Old Z n0 h)  (a : Addr) (ga : n0 ≤ a) (E0 : Exa Z h a "com/example/ratatoskr/ratatoskr/index/IntList") (F1 : Fld Z h a "com/example/ratatoskr/ratatoskr/index/IntList" "blocks" "[[I" .null) (F2 : Fld Z h a "com/example/ratatoskr/ratatoskr/index/IntList" "size" "I" (.int (0 : Int32))) : Con l Z (⟨"com/example/ratatoskr/ratatoskr/index/IntList", "<init>", "()V"⟩ : MethodName) prog_10_method_1_code 1 none ({ frames := 1, cells := 2, slots := 9, locals := 12 } : Room) #[(.ref a)] h n0 (fun v h' => v = none ∧ Keep h h' [a] ∧ ∃ bl d kB kD, h.size ≤ bl ∧ h.size ≤ d ∧ IL Z n0 h' a bl d kB kD (0 : Int32) (8 : Int32) [(.int (0 : Int32)), (.int (0 : Int32)), (.int (0 : Int32)), (.int (0 : Int32)), (.int (0 : Int32)), (.int (0 : Int32)), (.int (0 : Int32)), (.int (0 : Int32))]) := by
  refine Con.mk (Ls := #[.val (.ref a)]) (plainFor_of_name pn_0) (fun m => by first | (simp [entryFrame, mkF, argsToLocals, Value.category]; done) | rfl) (fun w C => ?_)
  replace C : Cx w l Z "com/example/ratatoskr/ratatoskr/index/IntList" prog_10_method_1_code 1 none "<init>" ({ frames := 1, cells := 2, slots := 9, locals := 12 } : Room) n0 := C
  refine g_aloadN C (pc' := 1) d1_0 rfl rfl rfl ?_
  refine g_initO C (pc' := 4) (wd hw 7 rfl) (wd hw 8 rfl) (wd hw 9 rfl) d1_1 rfl rfl (Nat.le_of_ble_eq_true rfl) (Nat.le_of_ble_eq_true rfl) rfl ?_
  refine g_aloadN C (pc' := 5) d1_4 rfl rfl rfl ?_
  refine g_iconst C (pc' := 6) (v := (1 : Int32)) d1_5 (by decide) rfl ?_
  refine g_newRA C (pc' := 9) (k' := 1) (n' := 1) (cap := 1) (K := "[I") (ad := "[[I") (by decide) (by decide) (wd hw 10 rfl) (wd hw 11 rfl) d1_6 rfl (by decide) (by decide) (by decide) (by decide) (by decide) rfl rfl rfl (fun h1 b2 kA3 ex4 E5 A6 B8 Ov7 => ?_)
  have ne_a_b2 : a ≠ b2 := Nat.ne_of_lt (by rw [ex4]; exact E0.lt)
  have ge_b2 : n0 ≤ b2 := by rw [ex4]; exact O.1 ▸ O.2.1
  have sz_b2 : h.size ≤ b2 := by rw [ex4]; exact (Keep.refl h [a]).1
  have f9 := O.ext E5
  have f10 := E0.ext E5
  have f11 := F1.ext E5
  have f12 := F2.ext E5
  have f13 := (Keep.refl h [a]).ext E5
  have A14 : Arv Z h1 b2 kA3 (.array .int) (1 : Int32) [.null] .null := A6.pad (pad_rep [] .null 1)
  refine g_dup C (pc' := 10) d1_9 rfl rfl rfl ?_
  refine g_iconst C (pc' := 11) (v := (0 : Int32)) d1_10 (by decide) rfl ?_
  refine g_bipush C (pc' := 13) (v := (8 : Int32)) d1_11 (by decide) rfl ?_
  refine g_newPE C (pc' := 15) (k' := 2) (n' := 9) (cap := 8) (ad := "[I") (wd hw 12 rfl) (by decide) d1_13 rfl (by decide) (by decide) (by decide) (by decide) (by decide) rfl rfl rfl (fun h15 b16 kA17 ex18 E19 A20 B21 => ?_)
  have ne_a_b16 : a ≠ b16 := Nat.ne_of_lt (by rw [ex18]; exact f10.lt)
  have ne_b2_b16 : b2 ≠ b16 := Nat.ne_of_lt (by rw [ex18]; exact A14.lt)
  have ge_b16 : n0 ≤ b16 := by rw [ex18]; exact f9.1 ▸ f9.2.1
  have sz_b16 : h.size ≤ b16 := by rw [ex18]; exact f13.1
  have f22 := f9.ext E19
  have f23 := f10.ext E19
  have f24 := f11.ext E19
  have f25 := f12.ext E19
  have f26 := f13.ext E19
  have f27 := A14.ext E19
  have f28 := B8.ext E19
  have A29 : Arv Z h15 b16 kA17 .int (8 : Int32) [(.int (0 : Int32)), (.int (0 : Int32)), (.int (0 : Int32)), (.int (0 : Int32)), (.int (0 : Int32)), (.int (0 : Int32)), (.int (0 : Int32)), (.int (0 : Int32))] (.int (0 : Int32)) := A20.pad (pad_rep [] (.int (0 : Int32)) 8)
  refine g_aastore C (pc' := 16) d1_15 rfl f27 rfl (stoA f27 Ov7 B21) (by decide) (by decide) ge_b2 rfl (fun h30 W31 => ?_)
  have f32 := f22.wr W31 ge_b2
  have f33 := f23.wr W31
  have f34 := f24.other W31 (Or.inl ne_a_b2)
  have f35 := f25.other W31 (Or.inl ne_a_b2)
  have f36 := f26.wr W31 (Or.inr sz_b2)
  have f37 := (arv_put f27 rfl W31 (i := 0) rfl (Nat.le_of_ble_eq_true rfl) : Arv Z h30 b2 kA3 (.array .int) (1 : Int32) [(.ref b16)] .null)
  have f38 := f28.wr W31
  have f39 := A29.other W31 (Ne.symm ne_b2_b16)
  have f40 := B21.wr W31
  refine g_putF C (pc' := 19) (ty := (.array (.array .int))) (wd hw 14 rfl) Via.refl d1_16 rfl f34 f33 (Or.inl (wd hw 15 rfl)) (wd hw 2 rfl) (by decide) rfl rfl ga rfl (fun h41 W42 => ?_)
  have f43 := f32.wr W42 ga
  have f44 := f33.wr W42
  have f45 := f34.same W42
  have f46 := f35.other W42 (Or.inr (slot_ne (Or.inl (wd hw 22 rfl)) (Or.inl (wd hw 15 rfl)) (by decide) (t := .int) (t' := (.array (.array .int))) (by decide) (by decide)))
  have f47 := f36.wr W42 (Or.inl (List.mem_of_getElem? (i := 0) rfl))
  have f48 := f37.other W42 (Ne.symm ne_a_b2)
  have f49 := f38.wr W42
  have f50 := f39.other W42 (Ne.symm ne_a_b16)
  have f51 := f40.wr W42
  exact g_return C d1_19 rfl (Nat.le_of_ble_eq_true rfl) (Nat.le_of_ble_eq_true rfl) (⟨rfl, f47, b2, b16, kA3, kA17, sz_b2, sz_b16, ga, ge_b2, ge_b16, ne_a_b2, ne_a_b16, ne_b2_b16, Ov7, f44, f45, f46, f48, f50⟩)
theorem d3_0 : decode prog_10_method_2_code 0 = .ok (.aload_n 0, 1) := by decide +kernel
theorem d3_1 : decode prog_10_method_2_code 1 = .ok (.getfield 15, 3) := by decide +kernel
theorem d3_4 : decode prog_10_method_2_code 4 = .ok (.bipush 14, 2) := by decide +kernel
theorem d3_6 : decode prog_10_method_2_code 6 = .ok (.iushr, 1) := by decide +kernel
theorem d3_7 : decode prog_10_method_2_code 7 = .ok (.istore_n 2, 1) := by decide +kernel
theorem d3_8 : decode prog_10_method_2_code 8 = .ok (.aload_n 0, 1) := by decide +kernel
theorem d3_9 : decode prog_10_method_2_code 9 = .ok (.getfield 15, 3) := by decide +kernel
theorem d3_12 : decode prog_10_method_2_code 12 = .ok (.sipush 16383, 3) := by decide +kernel
theorem d3_15 : decode prog_10_method_2_code 15 = .ok (.iand, 1) := by decide +kernel
theorem d3_16 : decode prog_10_method_2_code 16 = .ok (.istore_n 3, 1) := by decide +kernel
theorem d3_17 : decode prog_10_method_2_code 17 = .ok (.iload_n 2, 1) := by decide +kernel
theorem d3_18 : decode prog_10_method_2_code 18 = .ok (.ifCond .ne 35, 3) := by decide +kernel
theorem d3_21 : decode prog_10_method_2_code 21 = .ok (.iload_n 3, 1) := by decide +kernel
theorem d3_22 : decode prog_10_method_2_code 22 = .ok (.aload_n 0, 1) := by decide +kernel
theorem d3_23 : decode prog_10_method_2_code 23 = .ok (.getfield 11, 3) := by decide +kernel
theorem d3_26 : decode prog_10_method_2_code 26 = .ok (.iconst 0, 1) := by decide +kernel
theorem d3_27 : decode prog_10_method_2_code 27 = .ok (.aaload, 1) := by decide +kernel
theorem d3_28 : decode prog_10_method_2_code 28 = .ok (.arraylength, 1) := by decide +kernel
theorem d3_29 : decode prog_10_method_2_code 29 = .ok (.if_icmp .ne 24, 3) := by decide +kernel
theorem d3_53 : decode prog_10_method_2_code 53 = .ok (.iload_n 2, 1) := by decide +kernel
theorem d3_54 : decode prog_10_method_2_code 54 = .ok (.aload_n 0, 1) := by decide +kernel
theorem d3_55 : decode prog_10_method_2_code 55 = .ok (.getfield 11, 3) := by decide +kernel
theorem d3_58 : decode prog_10_method_2_code 58 = .ok (.arraylength, 1) := by decide +kernel
theorem d3_59 : decode prog_10_method_2_code 59 = .ok (.if_icmp .ne 34, 3) := by decide +kernel
theorem d3_93 : decode prog_10_method_2_code 93 = .ok (.aload_n 0, 1) := by decide +kernel
theorem d3_94 : decode prog_10_method_2_code 94 = .ok (.getfield 11, 3) := by decide +kernel
theorem d3_97 : decode prog_10_method_2_code 97 = .ok (.iload_n 2, 1) := by decide +kernel
theorem d3_98 : decode prog_10_method_2_code 98 = .ok (.aaload, 1) := by decide +kernel
theorem d3_99 : decode prog_10_method_2_code 99 = .ok (.ifnonnull 14, 3) := by decide +kernel
theorem d3_113 : decode prog_10_method_2_code 113 = .ok (.aload_n 0, 1) := by decide +kernel
theorem d3_114 : decode prog_10_method_2_code 114 = .ok (.getfield 11, 3) := by decide +kernel
theorem d3_117 : decode prog_10_method_2_code 117 = .ok (.iload_n 2, 1) := by decide +kernel
theorem d3_118 : decode prog_10_method_2_code 118 = .ok (.aaload, 1) := by decide +kernel
theorem d3_119 : decode prog_10_method_2_code 119 = .ok (.iload_n 3, 1) := by decide +kernel
theorem d3_120 : decode prog_10_method_2_code 120 = .ok (.iload_n 1, 1) := by decide +kernel
theorem d3_121 : decode prog_10_method_2_code 121 = .ok (.iastore, 1) := by decide +kernel
theorem d3_122 : decode prog_10_method_2_code 122 = .ok (.aload_n 0, 1) := by decide +kernel
theorem d3_123 : decode prog_10_method_2_code 123 = .ok (.dup, 1) := by decide +kernel
theorem d3_124 : decode prog_10_method_2_code 124 = .ok (.getfield 15, 3) := by decide +kernel
theorem d3_127 : decode prog_10_method_2_code 127 = .ok (.iconst 1, 1) := by decide +kernel
theorem d3_128 : decode prog_10_method_2_code 128 = .ok (.iadd, 1) := by decide +kernel
theorem d3_129 : decode prog_10_method_2_code 129 = .ok (.putfield 15, 3) := by decide +kernel
theorem d3_132 : decode prog_10_method_2_code 132 = .ok (.return_, 1) := by decide +kernel
set_option maxRecDepth 65536 in
set_option maxHeartbeats 40000000 in
theorem il_add0 (l : Launch) (Z : State) (a0 : Array Value) (hw : ∀ d ∈ tables_1, d.before a0 Z = true) (n0 : Nat) (h : Heap) (O : Old Z n0 h)  (a bl d : Addr) (kB kD : ClassId) (x0 x1 x2 x3 x4 x5 x6 x7 : Int32) (v : Int32) (P : IL Z n0 h a bl d kB kD (0 : Int32) (8 : Int32) [(.int x0), (.int x1), (.int x2), (.int x3), (.int x4), (.int x5), (.int x6), (.int x7)]) : Con l Z (⟨"com/example/ratatoskr/ratatoskr/index/IntList", "add", "(I)V"⟩ : MethodName) prog_10_method_2_code 4 none ({ frames := 0, cells := 0, slots := 0, locals := 0 } : Room) #[(.ref a), (.int v)] h n0 (fun r h' => r = none ∧ Keep h h' [a, bl, d] ∧ IL Z n0 h' a bl d kB kD (1 : Int32) (8 : Int32) [(.int v), (.int x1), (.int x2), (.int x3), (.int x4), (.int x5), (.int x6), (.int x7)]) := by
  refine Con.mk (Ls := #[.val (.ref a), .val (.int v), .unset, .unset]) (plainFor_of_name pn_0) (fun m => by first | (simp [entryFrame, mkF, argsToLocals, Value.category]; done) | rfl) (fun w C => ?_)
  replace C : Cx w l Z "com/example/ratatoskr/ratatoskr/index/IntList" prog_10_method_2_code 4 none "add" ({ frames := 0, cells := 0, slots := 0, locals := 0 } : Room) n0 := C
  obtain ⟨ga, gb, gd, nab, nad, nbd, Ov, E0, F1, F2, A1, A2⟩ := P
  refine g_aloadN C (pc' := 1) d3_0 rfl rfl rfl ?_
  refine g_getF C (pc' := 4) (wd hw 21 rfl) Via.refl d3_1 rfl F2 rfl ?_
  refine g_bipush C (pc' := 6) (v := (14 : Int32)) d3_4 (by decide) rfl ?_
  refine g_iushr C (pc' := 7) d3_6 rfl rfl ?_
  rw [show (((0 : Int32).toUInt32 >>> ((14 : Int32) &&& 31).toUInt32).toInt32) = (0 : Int32) from by decide]
  refine g_istoreN C (pc' := 8) (Ls' := #[.val (.ref a), .val (.int v), .val (.int (0 : Int32)), .unset]) d3_7 rfl rfl rfl ?_
  refine g_aloadN C (pc' := 9) d3_8 rfl rfl rfl ?_
  refine g_getF C (pc' := 12) (wd hw 21 rfl) Via.refl d3_9 rfl F2 rfl ?_
  refine g_sipush C (pc' := 15) (v := (16383 : Int32)) d3_12 (by decide) rfl ?_
  refine g_iand C (pc' := 16) d3_15 rfl rfl ?_
  rw [show ((0 : Int32) &&& (16383 : Int32)) = (0 : Int32) from by decide]
  refine g_istoreN C (pc' := 17) (Ls' := #[.val (.ref a), .val (.int v), .val (.int (0 : Int32)), .val (.int (0 : Int32))]) d3_16 rfl rfl rfl ?_
  refine g_iloadN C (pc' := 18) d3_17 rfl rfl ?_
  refine g_ifN C (pc' := 21) d3_18 rfl (by decide) rfl ?_
  refine g_iloadN C (pc' := 22) d3_21 rfl rfl ?_
  refine g_aloadN C (pc' := 23) d3_22 rfl rfl rfl ?_
  refine g_getF C (pc' := 26) (wd hw 14 rfl) Via.refl d3_23 rfl F1 rfl ?_
  refine g_iconst C (pc' := 27) (v := (0 : Int32)) d3_26 (by decide) rfl ?_
  refine g_aaload C (pc' := 28) (x := (.ref d)) d3_27 rfl A1 rfl (by decide) (by decide) rfl rfl ?_
  refine g_alen C (pc' := 29) d3_28 rfl A2 rfl ?_
  refine g_icY C (pc' := 53) d3_29 rfl (by decide) (by decide) rfl ?_
  refine g_iloadN C (pc' := 54) d3_53 rfl rfl ?_
  refine g_aloadN C (pc' := 55) d3_54 rfl rfl rfl ?_
  refine g_getF C (pc' := 58) (wd hw 14 rfl) Via.refl d3_55 rfl F1 rfl ?_
  refine g_alen C (pc' := 59) d3_58 rfl A1 rfl ?_
  refine g_icY C (pc' := 93) d3_59 rfl (by decide) (by decide) rfl ?_
  refine g_aloadN C (pc' := 94) d3_93 rfl rfl rfl ?_
  refine g_getF C (pc' := 97) (wd hw 14 rfl) Via.refl d3_94 rfl F1 rfl ?_
  refine g_iloadN C (pc' := 98) d3_97 rfl rfl ?_
  refine g_aaload C (pc' := 99) (x := (.ref d)) d3_98 rfl A1 rfl (by decide) (by decide) rfl rfl ?_
  refine g_ifnonnullY C (pc' := 113) d3_99 rfl (by decide) rfl ?_
  refine g_aloadN C (pc' := 114) d3_113 rfl rfl rfl ?_
  refine g_getF C (pc' := 117) (wd hw 14 rfl) Via.refl d3_114 rfl F1 rfl ?_
  refine g_iloadN C (pc' := 118) d3_117 rfl rfl ?_
  refine g_aaload C (pc' := 119) (x := (.ref d)) d3_118 rfl A1 rfl (by decide) (by decide) rfl rfl ?_
  refine g_iloadN C (pc' := 120) d3_119 rfl rfl ?_
  refine g_iloadN C (pc' := 121) d3_120 rfl rfl ?_
  refine g_iastore C (pc' := 122) d3_121 rfl A2 (by decide) (by decide) gd rfl (fun h52 W53 => ?_)
  have f54 := O.wr W53 gd
  have f55 := E0.wr W53
  have f56 := F1.other W53 (Or.inl nad)
  have f57 := F2.other W53 (Or.inl nad)
  have f58 := A1.other W53 nbd
  have f59 := (arv_put A2 rfl W53 (i := 0) rfl (Nat.le_of_ble_eq_true rfl) : Arv Z h52 d kD .int (8 : Int32) [(.int v), (.int x1), (.int x2), (.int x3), (.int x4), (.int x5), (.int x6), (.int x7)] (.int (0 : Int32)))
  have f60 := (Keep.refl h [a, bl, d]).wr W53 (Or.inl (List.mem_of_getElem? (i := 2) rfl))
  refine g_aloadN C (pc' := 123) d3_122 rfl rfl rfl ?_
  refine g_dup C (pc' := 124) d3_123 rfl rfl rfl ?_
  refine g_getF C (pc' := 127) (wd hw 21 rfl) Via.refl d3_124 rfl f57 rfl ?_
  refine g_iconst C (pc' := 128) (v := (1 : Int32)) d3_127 (by decide) rfl ?_
  refine g_iadd C (pc' := 129) d3_128 rfl rfl ?_
  rw [show ((0 : Int32) + (1 : Int32)) = (1 : Int32) from by decide]
  refine g_putF C (pc' := 132) (ty := .int) (wd hw 21 rfl) Via.refl d3_129 rfl f57 f55 (Or.inl (wd hw 22 rfl)) (wd hw 2 rfl) (by decide) rfl rfl ga rfl (fun h61 W62 => ?_)
  have f63 := f54.wr W62 ga
  have f64 := f55.wr W62
  have f65 := f56.other W62 (Or.inr (slot_ne (Or.inl (wd hw 15 rfl)) (Or.inl (wd hw 22 rfl)) (by decide) (t := (.array (.array .int))) (t' := .int) (by decide) (by decide)))
  have f66 := f57.same W62
  have f67 := f58.other W62 (Ne.symm nab)
  have f68 := f59.other W62 (Ne.symm nad)
  have f69 := f60.wr W62 (Or.inl (List.mem_of_getElem? (i := 0) rfl))
  exact g_return C d3_132 rfl (Nat.le_of_ble_eq_true rfl) (Nat.le_of_ble_eq_true rfl) (⟨rfl, f69, ⟨ga, gb, gd, nab, nad, nbd, Ov, f64, f65, f66, f67, f68⟩⟩)
set_option maxRecDepth 65536 in
set_option maxHeartbeats 40000000 in
theorem il_add1 (l : Launch) (Z : State) (a0 : Array Value) (hw : ∀ d ∈ tables_1, d.before a0 Z = true) (n0 : Nat) (h : Heap) (O : Old Z n0 h)  (a bl d : Addr) (kB kD : ClassId) (x0 x1 x2 x3 x4 x5 x6 x7 : Int32) (v : Int32) (P : IL Z n0 h a bl d kB kD (1 : Int32) (8 : Int32) [(.int x0), (.int x1), (.int x2), (.int x3), (.int x4), (.int x5), (.int x6), (.int x7)]) : Con l Z (⟨"com/example/ratatoskr/ratatoskr/index/IntList", "add", "(I)V"⟩ : MethodName) prog_10_method_2_code 4 none ({ frames := 0, cells := 0, slots := 0, locals := 0 } : Room) #[(.ref a), (.int v)] h n0 (fun r h' => r = none ∧ Keep h h' [a, bl, d] ∧ IL Z n0 h' a bl d kB kD (2 : Int32) (8 : Int32) [(.int x0), (.int v), (.int x2), (.int x3), (.int x4), (.int x5), (.int x6), (.int x7)]) := by
  refine Con.mk (Ls := #[.val (.ref a), .val (.int v), .unset, .unset]) (plainFor_of_name pn_0) (fun m => by first | (simp [entryFrame, mkF, argsToLocals, Value.category]; done) | rfl) (fun w C => ?_)
  replace C : Cx w l Z "com/example/ratatoskr/ratatoskr/index/IntList" prog_10_method_2_code 4 none "add" ({ frames := 0, cells := 0, slots := 0, locals := 0 } : Room) n0 := C
  obtain ⟨ga, gb, gd, nab, nad, nbd, Ov, E0, F1, F2, A1, A2⟩ := P
  refine g_aloadN C (pc' := 1) d3_0 rfl rfl rfl ?_
  refine g_getF C (pc' := 4) (wd hw 21 rfl) Via.refl d3_1 rfl F2 rfl ?_
  refine g_bipush C (pc' := 6) (v := (14 : Int32)) d3_4 (by decide) rfl ?_
  refine g_iushr C (pc' := 7) d3_6 rfl rfl ?_
  rw [show (((1 : Int32).toUInt32 >>> ((14 : Int32) &&& 31).toUInt32).toInt32) = (0 : Int32) from by decide]
  refine g_istoreN C (pc' := 8) (Ls' := #[.val (.ref a), .val (.int v), .val (.int (0 : Int32)), .unset]) d3_7 rfl rfl rfl ?_
  refine g_aloadN C (pc' := 9) d3_8 rfl rfl rfl ?_
  refine g_getF C (pc' := 12) (wd hw 21 rfl) Via.refl d3_9 rfl F2 rfl ?_
  refine g_sipush C (pc' := 15) (v := (16383 : Int32)) d3_12 (by decide) rfl ?_
  refine g_iand C (pc' := 16) d3_15 rfl rfl ?_
  rw [show ((1 : Int32) &&& (16383 : Int32)) = (1 : Int32) from by decide]
  refine g_istoreN C (pc' := 17) (Ls' := #[.val (.ref a), .val (.int v), .val (.int (0 : Int32)), .val (.int (1 : Int32))]) d3_16 rfl rfl rfl ?_
  refine g_iloadN C (pc' := 18) d3_17 rfl rfl ?_
  refine g_ifN C (pc' := 21) d3_18 rfl (by decide) rfl ?_
  refine g_iloadN C (pc' := 22) d3_21 rfl rfl ?_
  refine g_aloadN C (pc' := 23) d3_22 rfl rfl rfl ?_
  refine g_getF C (pc' := 26) (wd hw 14 rfl) Via.refl d3_23 rfl F1 rfl ?_
  refine g_iconst C (pc' := 27) (v := (0 : Int32)) d3_26 (by decide) rfl ?_
  refine g_aaload C (pc' := 28) (x := (.ref d)) d3_27 rfl A1 rfl (by decide) (by decide) rfl rfl ?_
  refine g_alen C (pc' := 29) d3_28 rfl A2 rfl ?_
  refine g_icY C (pc' := 53) d3_29 rfl (by decide) (by decide) rfl ?_
  refine g_iloadN C (pc' := 54) d3_53 rfl rfl ?_
  refine g_aloadN C (pc' := 55) d3_54 rfl rfl rfl ?_
  refine g_getF C (pc' := 58) (wd hw 14 rfl) Via.refl d3_55 rfl F1 rfl ?_
  refine g_alen C (pc' := 59) d3_58 rfl A1 rfl ?_
  refine g_icY C (pc' := 93) d3_59 rfl (by decide) (by decide) rfl ?_
  refine g_aloadN C (pc' := 94) d3_93 rfl rfl rfl ?_
  refine g_getF C (pc' := 97) (wd hw 14 rfl) Via.refl d3_94 rfl F1 rfl ?_
  refine g_iloadN C (pc' := 98) d3_97 rfl rfl ?_
  refine g_aaload C (pc' := 99) (x := (.ref d)) d3_98 rfl A1 rfl (by decide) (by decide) rfl rfl ?_
  refine g_ifnonnullY C (pc' := 113) d3_99 rfl (by decide) rfl ?_
  refine g_aloadN C (pc' := 114) d3_113 rfl rfl rfl ?_
  refine g_getF C (pc' := 117) (wd hw 14 rfl) Via.refl d3_114 rfl F1 rfl ?_
  refine g_iloadN C (pc' := 118) d3_117 rfl rfl ?_
  refine g_aaload C (pc' := 119) (x := (.ref d)) d3_118 rfl A1 rfl (by decide) (by decide) rfl rfl ?_
  refine g_iloadN C (pc' := 120) d3_119 rfl rfl ?_
  refine g_iloadN C (pc' := 121) d3_120 rfl rfl ?_
  refine g_iastore C (pc' := 122) d3_121 rfl A2 (by decide) (by decide) gd rfl (fun h70 W71 => ?_)
  have f72 := O.wr W71 gd
  have f73 := E0.wr W71
  have f74 := F1.other W71 (Or.inl nad)
  have f75 := F2.other W71 (Or.inl nad)
  have f76 := A1.other W71 nbd
  have f77 := (arv_put A2 rfl W71 (i := 1) rfl (Nat.le_of_ble_eq_true rfl) : Arv Z h70 d kD .int (8 : Int32) [(.int x0), (.int v), (.int x2), (.int x3), (.int x4), (.int x5), (.int x6), (.int x7)] (.int (0 : Int32)))
  have f78 := (Keep.refl h [a, bl, d]).wr W71 (Or.inl (List.mem_of_getElem? (i := 2) rfl))
  refine g_aloadN C (pc' := 123) d3_122 rfl rfl rfl ?_
  refine g_dup C (pc' := 124) d3_123 rfl rfl rfl ?_
  refine g_getF C (pc' := 127) (wd hw 21 rfl) Via.refl d3_124 rfl f75 rfl ?_
  refine g_iconst C (pc' := 128) (v := (1 : Int32)) d3_127 (by decide) rfl ?_
  refine g_iadd C (pc' := 129) d3_128 rfl rfl ?_
  rw [show ((1 : Int32) + (1 : Int32)) = (2 : Int32) from by decide]
  refine g_putF C (pc' := 132) (ty := .int) (wd hw 21 rfl) Via.refl d3_129 rfl f75 f73 (Or.inl (wd hw 22 rfl)) (wd hw 2 rfl) (by decide) rfl rfl ga rfl (fun h79 W80 => ?_)
  have f81 := f72.wr W80 ga
  have f82 := f73.wr W80
  have f83 := f74.other W80 (Or.inr (slot_ne (Or.inl (wd hw 15 rfl)) (Or.inl (wd hw 22 rfl)) (by decide) (t := (.array (.array .int))) (t' := .int) (by decide) (by decide)))
  have f84 := f75.same W80
  have f85 := f76.other W80 (Ne.symm nab)
  have f86 := f77.other W80 (Ne.symm nad)
  have f87 := f78.wr W80 (Or.inl (List.mem_of_getElem? (i := 0) rfl))
  exact g_return C d3_132 rfl (Nat.le_of_ble_eq_true rfl) (Nat.le_of_ble_eq_true rfl) (⟨rfl, f87, ⟨ga, gb, gd, nab, nad, nbd, Ov, f82, f83, f84, f85, f86⟩⟩)
set_option maxRecDepth 65536 in
set_option maxHeartbeats 40000000 in
theorem il_add2 (l : Launch) (Z : State) (a0 : Array Value) (hw : ∀ d ∈ tables_1, d.before a0 Z = true) (n0 : Nat) (h : Heap) (O : Old Z n0 h)  (a bl d : Addr) (kB kD : ClassId) (x0 x1 x2 x3 x4 x5 x6 x7 : Int32) (v : Int32) (P : IL Z n0 h a bl d kB kD (2 : Int32) (8 : Int32) [(.int x0), (.int x1), (.int x2), (.int x3), (.int x4), (.int x5), (.int x6), (.int x7)]) : Con l Z (⟨"com/example/ratatoskr/ratatoskr/index/IntList", "add", "(I)V"⟩ : MethodName) prog_10_method_2_code 4 none ({ frames := 0, cells := 0, slots := 0, locals := 0 } : Room) #[(.ref a), (.int v)] h n0 (fun r h' => r = none ∧ Keep h h' [a, bl, d] ∧ IL Z n0 h' a bl d kB kD (3 : Int32) (8 : Int32) [(.int x0), (.int x1), (.int v), (.int x3), (.int x4), (.int x5), (.int x6), (.int x7)]) := by
  refine Con.mk (Ls := #[.val (.ref a), .val (.int v), .unset, .unset]) (plainFor_of_name pn_0) (fun m => by first | (simp [entryFrame, mkF, argsToLocals, Value.category]; done) | rfl) (fun w C => ?_)
  replace C : Cx w l Z "com/example/ratatoskr/ratatoskr/index/IntList" prog_10_method_2_code 4 none "add" ({ frames := 0, cells := 0, slots := 0, locals := 0 } : Room) n0 := C
  obtain ⟨ga, gb, gd, nab, nad, nbd, Ov, E0, F1, F2, A1, A2⟩ := P
  refine g_aloadN C (pc' := 1) d3_0 rfl rfl rfl ?_
  refine g_getF C (pc' := 4) (wd hw 21 rfl) Via.refl d3_1 rfl F2 rfl ?_
  refine g_bipush C (pc' := 6) (v := (14 : Int32)) d3_4 (by decide) rfl ?_
  refine g_iushr C (pc' := 7) d3_6 rfl rfl ?_
  rw [show (((2 : Int32).toUInt32 >>> ((14 : Int32) &&& 31).toUInt32).toInt32) = (0 : Int32) from by decide]
  refine g_istoreN C (pc' := 8) (Ls' := #[.val (.ref a), .val (.int v), .val (.int (0 : Int32)), .unset]) d3_7 rfl rfl rfl ?_
  refine g_aloadN C (pc' := 9) d3_8 rfl rfl rfl ?_
  refine g_getF C (pc' := 12) (wd hw 21 rfl) Via.refl d3_9 rfl F2 rfl ?_
  refine g_sipush C (pc' := 15) (v := (16383 : Int32)) d3_12 (by decide) rfl ?_
  refine g_iand C (pc' := 16) d3_15 rfl rfl ?_
  rw [show ((2 : Int32) &&& (16383 : Int32)) = (2 : Int32) from by decide]
  refine g_istoreN C (pc' := 17) (Ls' := #[.val (.ref a), .val (.int v), .val (.int (0 : Int32)), .val (.int (2 : Int32))]) d3_16 rfl rfl rfl ?_
  refine g_iloadN C (pc' := 18) d3_17 rfl rfl ?_
  refine g_ifN C (pc' := 21) d3_18 rfl (by decide) rfl ?_
  refine g_iloadN C (pc' := 22) d3_21 rfl rfl ?_
  refine g_aloadN C (pc' := 23) d3_22 rfl rfl rfl ?_
  refine g_getF C (pc' := 26) (wd hw 14 rfl) Via.refl d3_23 rfl F1 rfl ?_
  refine g_iconst C (pc' := 27) (v := (0 : Int32)) d3_26 (by decide) rfl ?_
  refine g_aaload C (pc' := 28) (x := (.ref d)) d3_27 rfl A1 rfl (by decide) (by decide) rfl rfl ?_
  refine g_alen C (pc' := 29) d3_28 rfl A2 rfl ?_
  refine g_icY C (pc' := 53) d3_29 rfl (by decide) (by decide) rfl ?_
  refine g_iloadN C (pc' := 54) d3_53 rfl rfl ?_
  refine g_aloadN C (pc' := 55) d3_54 rfl rfl rfl ?_
  refine g_getF C (pc' := 58) (wd hw 14 rfl) Via.refl d3_55 rfl F1 rfl ?_
  refine g_alen C (pc' := 59) d3_58 rfl A1 rfl ?_
  refine g_icY C (pc' := 93) d3_59 rfl (by decide) (by decide) rfl ?_
  refine g_aloadN C (pc' := 94) d3_93 rfl rfl rfl ?_
  refine g_getF C (pc' := 97) (wd hw 14 rfl) Via.refl d3_94 rfl F1 rfl ?_
  refine g_iloadN C (pc' := 98) d3_97 rfl rfl ?_
  refine g_aaload C (pc' := 99) (x := (.ref d)) d3_98 rfl A1 rfl (by decide) (by decide) rfl rfl ?_
  refine g_ifnonnullY C (pc' := 113) d3_99 rfl (by decide) rfl ?_
  refine g_aloadN C (pc' := 114) d3_113 rfl rfl rfl ?_
  refine g_getF C (pc' := 117) (wd hw 14 rfl) Via.refl d3_114 rfl F1 rfl ?_
  refine g_iloadN C (pc' := 118) d3_117 rfl rfl ?_
  refine g_aaload C (pc' := 119) (x := (.ref d)) d3_118 rfl A1 rfl (by decide) (by decide) rfl rfl ?_
  refine g_iloadN C (pc' := 120) d3_119 rfl rfl ?_
  refine g_iloadN C (pc' := 121) d3_120 rfl rfl ?_
  refine g_iastore C (pc' := 122) d3_121 rfl A2 (by decide) (by decide) gd rfl (fun h88 W89 => ?_)
  have f90 := O.wr W89 gd
  have f91 := E0.wr W89
  have f92 := F1.other W89 (Or.inl nad)
  have f93 := F2.other W89 (Or.inl nad)
  have f94 := A1.other W89 nbd
  have f95 := (arv_put A2 rfl W89 (i := 2) rfl (Nat.le_of_ble_eq_true rfl) : Arv Z h88 d kD .int (8 : Int32) [(.int x0), (.int x1), (.int v), (.int x3), (.int x4), (.int x5), (.int x6), (.int x7)] (.int (0 : Int32)))
  have f96 := (Keep.refl h [a, bl, d]).wr W89 (Or.inl (List.mem_of_getElem? (i := 2) rfl))
  refine g_aloadN C (pc' := 123) d3_122 rfl rfl rfl ?_
  refine g_dup C (pc' := 124) d3_123 rfl rfl rfl ?_
  refine g_getF C (pc' := 127) (wd hw 21 rfl) Via.refl d3_124 rfl f93 rfl ?_
  refine g_iconst C (pc' := 128) (v := (1 : Int32)) d3_127 (by decide) rfl ?_
  refine g_iadd C (pc' := 129) d3_128 rfl rfl ?_
  rw [show ((2 : Int32) + (1 : Int32)) = (3 : Int32) from by decide]
  refine g_putF C (pc' := 132) (ty := .int) (wd hw 21 rfl) Via.refl d3_129 rfl f93 f91 (Or.inl (wd hw 22 rfl)) (wd hw 2 rfl) (by decide) rfl rfl ga rfl (fun h97 W98 => ?_)
  have f99 := f90.wr W98 ga
  have f100 := f91.wr W98
  have f101 := f92.other W98 (Or.inr (slot_ne (Or.inl (wd hw 15 rfl)) (Or.inl (wd hw 22 rfl)) (by decide) (t := (.array (.array .int))) (t' := .int) (by decide) (by decide)))
  have f102 := f93.same W98
  have f103 := f94.other W98 (Ne.symm nab)
  have f104 := f95.other W98 (Ne.symm nad)
  have f105 := f96.wr W98 (Or.inl (List.mem_of_getElem? (i := 0) rfl))
  exact g_return C d3_132 rfl (Nat.le_of_ble_eq_true rfl) (Nat.le_of_ble_eq_true rfl) (⟨rfl, f105, ⟨ga, gb, gd, nab, nad, nbd, Ov, f100, f101, f102, f103, f104⟩⟩)
theorem d7_0 : decode prog_10_method_7_code 0 = .ok (.aload_n 0, 1) := by decide +kernel
theorem d7_1 : decode prog_10_method_7_code 1 = .ok (.getfield 15, 3) := by decide +kernel
theorem d7_4 : decode prog_10_method_7_code 4 = .ok (.ireturn, 1) := by decide +kernel
set_option maxRecDepth 65536 in
set_option maxHeartbeats 40000000 in
theorem il_size1 (l : Launch) (Z : State) (a0 : Array Value) (hw : ∀ d ∈ tables_1, d.before a0 Z = true) (n0 : Nat) (h : Heap) (O : Old Z n0 h)  (a bl d : Addr) (kB kD : ClassId) (x0 x1 x2 x3 x4 x5 x6 x7 : Int32) (P : IL Z n0 h a bl d kB kD (1 : Int32) (8 : Int32) [(.int x0), (.int x1), (.int x2), (.int x3), (.int x4), (.int x5), (.int x6), (.int x7)]) : Con l Z (⟨"com/example/ratatoskr/ratatoskr/index/IntList", "size", "()I"⟩ : MethodName) prog_10_method_7_code 1 (some .int) ({ frames := 0, cells := 0, slots := 0, locals := 0 } : Room) #[(.ref a)] h n0 (fun r h' => r = some (.int (1 : Int32)) ∧ h' = h) := by
  refine Con.mk (Ls := #[.val (.ref a)]) (plainFor_of_name pn_0) (fun m => by first | (simp [entryFrame, mkF, argsToLocals, Value.category]; done) | rfl) (fun w C => ?_)
  replace C : Cx w l Z "com/example/ratatoskr/ratatoskr/index/IntList" prog_10_method_7_code 1 (some .int) "size" ({ frames := 0, cells := 0, slots := 0, locals := 0 } : Room) n0 := C
  obtain ⟨ga, gb, gd, nab, nad, nbd, Ov, E0, F1, F2, A1, A2⟩ := P
  refine g_aloadN C (pc' := 1) d7_0 rfl rfl rfl ?_
  refine g_getF C (pc' := 4) (wd hw 21 rfl) Via.refl d7_1 rfl F2 rfl ?_
  exact g_ireturn C d7_4 rfl (Nat.le_of_ble_eq_true rfl) (Nat.le_of_ble_eq_true rfl) (⟨rfl, rfl⟩)
theorem d6_0 : decode jdk_41_method_11_code 0 = .ok (.iload_n 0, 1) := by decide +kernel
theorem d6_1 : decode jdk_41_method_11_code 1 = .ok (.ifCond .lt 8, 3) := by decide +kernel
theorem d6_4 : decode jdk_41_method_11_code 4 = .ok (.iload_n 0, 1) := by decide +kernel
theorem d6_5 : decode jdk_41_method_11_code 5 = .ok (.iload_n 1, 1) := by decide +kernel
theorem d6_6 : decode jdk_41_method_11_code 6 = .ok (.if_icmp .lt 10, 3) := by decide +kernel
theorem d6_16 : decode jdk_41_method_11_code 16 = .ok (.iload_n 0, 1) := by decide +kernel
theorem d6_17 : decode jdk_41_method_11_code 17 = .ok (.ireturn, 1) := by decide +kernel
theorem pn_4 : plainName "jdk/internal/util/Preconditions" = true := by first | (simp [plainName, overriddenIn]; done) | decide +kernel
set_option maxRecDepth 65536 in
set_option maxHeartbeats 40000000 in
theorem pc_0_1 (l : Launch) (Z : State) (a0 : Array Value) (hw : ∀ d ∈ tables_1, d.before a0 Z = true) (n0 : Nat) (h : Heap) (O : Old Z n0 h)  : Con l Z (⟨"jdk/internal/util/Preconditions", "checkIndex", "(IILjava/util/function/BiFunction;)I"⟩ : MethodName) jdk_41_method_11_code 3 (some .int) ({ frames := 0, cells := 0, slots := 0, locals := 0 } : Room) #[(.int (0 : Int32)), (.int (1 : Int32)), .null] h n0 (fun r h' => r = some (.int (0 : Int32)) ∧ h' = h) := by
  refine Con.mk (Ls := #[.val (.int (0 : Int32)), .val (.int (1 : Int32)), .val .null]) (plainFor_of_name pn_4) (fun m => by first | (simp [entryFrame, mkF, argsToLocals, Value.category]; done) | rfl) (fun w C => ?_)
  replace C : Cx w l Z "jdk/internal/util/Preconditions" jdk_41_method_11_code 3 (some .int) "checkIndex" ({ frames := 0, cells := 0, slots := 0, locals := 0 } : Room) n0 := C
  refine g_iloadN C (pc' := 1) d6_0 rfl rfl ?_
  refine g_ifN C (pc' := 4) d6_1 rfl (by decide) rfl ?_
  refine g_iloadN C (pc' := 5) d6_4 rfl rfl ?_
  refine g_iloadN C (pc' := 6) d6_5 rfl rfl ?_
  refine g_icY C (pc' := 16) d6_6 rfl (by decide) (by decide) rfl ?_
  refine g_iloadN C (pc' := 17) d6_16 rfl rfl ?_
  exact g_ireturn C d6_17 rfl (Nat.le_of_ble_eq_true rfl) (Nat.le_of_ble_eq_true rfl) (⟨rfl, rfl⟩)
theorem d5_0 : decode jdk_31_method_17_code 0 = .ok (.iload_n 0, 1) := by decide +kernel
theorem d5_1 : decode jdk_31_method_17_code 1 = .ok (.iload_n 1, 1) := by decide +kernel
theorem d5_2 : decode jdk_31_method_17_code 2 = .ok (.aconst_null, 1) := by decide +kernel
theorem d5_3 : decode jdk_31_method_17_code 3 = .ok (.invokestatic 105, 3) := by decide +kernel
theorem pd_4 : parseMethodDescriptor "(IILjava/util/function/BiFunction;)I" = some ⟨[.int, .int, (.object "java/util/function/BiFunction")], some .int⟩ := by decide +kernel
theorem d5_6 : decode jdk_31_method_17_code 6 = .ok (.ireturn, 1) := by decide +kernel
theorem pn_3 : plainName "java/util/Objects" = true := by first | (simp [plainName, overriddenIn]; done) | decide +kernel
set_option maxRecDepth 65536 in
set_option maxHeartbeats 40000000 in
theorem oc_0_1 (l : Launch) (Z : State) (a0 : Array Value) (hw : ∀ d ∈ tables_1, d.before a0 Z = true) (n0 : Nat) (h : Heap) (O : Old Z n0 h)  : Con l Z (⟨"java/util/Objects", "checkIndex", "(II)I"⟩ : MethodName) jdk_31_method_17_code 2 (some .int) ({ frames := 1, cells := 0, slots := 0, locals := 14 } : Room) #[(.int (0 : Int32)), (.int (1 : Int32))] h n0 (fun r h' => r = some (.int (0 : Int32)) ∧ h' = h) := by
  refine Con.mk (Ls := #[.val (.int (0 : Int32)), .val (.int (1 : Int32))]) (plainFor_of_name pn_3) (fun m => by first | (simp [entryFrame, mkF, argsToLocals, Value.category]; done) | rfl) (fun w C => ?_)
  replace C : Cx w l Z "java/util/Objects" jdk_31_method_17_code 2 (some .int) "checkIndex" ({ frames := 1, cells := 0, slots := 0, locals := 14 } : Room) n0 := C
  refine g_iloadN C (pc' := 1) d5_0 rfl rfl ?_
  refine g_iloadN C (pc' := 2) d5_1 rfl rfl ?_
  refine g_aconstNull C (pc' := 3) d5_2 rfl ?_
  refine g_callS C (pc' := 6) (k' := 0) (n' := 0) (argsL := [(.int (0 : Int32)), (.int (1 : Int32)), .null]) (rest := []) (wd hw 32 rfl) (wd hw 33 rfl) (wd hw 34 rfl) (wd hw 35 rfl) (by decide) d5_3 pd_4 rfl rfl rfl (pc_0_1 l Z a0 hw n0 h O) (Nat.le_of_ble_eq_true rfl) (Nat.le_of_ble_eq_true rfl) (Nat.le_of_ble_eq_true rfl) (Nat.le_of_ble_eq_true rfl) rfl rfl rfl (fun v107 h106 q108 => ?_)
  obtain ⟨rfl, eh106⟩ := q108
  subst h106
  show G w _ h 0 0 6 #[.val (.int (0 : Int32)), .val (.int (1 : Int32))] [(.int (0 : Int32))]
  exact g_ireturn C d5_6 rfl (Nat.le_of_ble_eq_true rfl) (Nat.le_of_ble_eq_true rfl) (⟨rfl, rfl⟩)
theorem d8_0 : decode prog_10_method_3_code 0 = .ok (.aload_n 0, 1) := by decide +kernel
theorem d8_1 : decode prog_10_method_3_code 1 = .ok (.getfield 11, 3) := by decide +kernel
theorem d8_4 : decode prog_10_method_3_code 4 = .ok (.iload_n 1, 1) := by decide +kernel
theorem d8_5 : decode prog_10_method_3_code 5 = .ok (.bipush 14, 2) := by decide +kernel
theorem d8_7 : decode prog_10_method_3_code 7 = .ok (.iushr, 1) := by decide +kernel
theorem d8_8 : decode prog_10_method_3_code 8 = .ok (.aaload, 1) := by decide +kernel
theorem d8_9 : decode prog_10_method_3_code 9 = .ok (.iload_n 1, 1) := by decide +kernel
theorem d8_10 : decode prog_10_method_3_code 10 = .ok (.sipush 16383, 3) := by decide +kernel
theorem d8_13 : decode prog_10_method_3_code 13 = .ok (.iand, 1) := by decide +kernel
theorem d8_14 : decode prog_10_method_3_code 14 = .ok (.iaload, 1) := by decide +kernel
theorem d8_15 : decode prog_10_method_3_code 15 = .ok (.ireturn, 1) := by decide +kernel
set_option maxRecDepth 65536 in
set_option maxHeartbeats 40000000 in
theorem il_get1_0 (l : Launch) (Z : State) (a0 : Array Value) (hw : ∀ d ∈ tables_1, d.before a0 Z = true) (n0 : Nat) (h : Heap) (O : Old Z n0 h)  (a bl d : Addr) (kB kD : ClassId) (x0 x1 x2 x3 x4 x5 x6 x7 : Int32) (P : IL Z n0 h a bl d kB kD (1 : Int32) (8 : Int32) [(.int x0), (.int x1), (.int x2), (.int x3), (.int x4), (.int x5), (.int x6), (.int x7)]) : Con l Z (⟨"com/example/ratatoskr/ratatoskr/index/IntList", "get", "(I)I"⟩ : MethodName) prog_10_method_3_code 2 (some .int) ({ frames := 0, cells := 0, slots := 0, locals := 0 } : Room) #[(.ref a), (.int (0 : Int32))] h n0 (fun r h' => r = some (.int x0) ∧ h' = h) := by
  refine Con.mk (Ls := #[.val (.ref a), .val (.int (0 : Int32))]) (plainFor_of_name pn_0) (fun m => by first | (simp [entryFrame, mkF, argsToLocals, Value.category]; done) | rfl) (fun w C => ?_)
  replace C : Cx w l Z "com/example/ratatoskr/ratatoskr/index/IntList" prog_10_method_3_code 2 (some .int) "get" ({ frames := 0, cells := 0, slots := 0, locals := 0 } : Room) n0 := C
  obtain ⟨ga, gb, gd, nab, nad, nbd, Ov, E0, F1, F2, A1, A2⟩ := P
  refine g_aloadN C (pc' := 1) d8_0 rfl rfl rfl ?_
  refine g_getF C (pc' := 4) (wd hw 14 rfl) Via.refl d8_1 rfl F1 rfl ?_
  refine g_iloadN C (pc' := 5) d8_4 rfl rfl ?_
  refine g_bipush C (pc' := 7) (v := (14 : Int32)) d8_5 (by decide) rfl ?_
  refine g_iushr C (pc' := 8) d8_7 rfl rfl ?_
  rw [show (((0 : Int32).toUInt32 >>> ((14 : Int32) &&& 31).toUInt32).toInt32) = (0 : Int32) from by decide]
  refine g_aaload C (pc' := 9) (x := (.ref d)) d8_8 rfl A1 rfl (by decide) (by decide) rfl rfl ?_
  refine g_iloadN C (pc' := 10) d8_9 rfl rfl ?_
  refine g_sipush C (pc' := 13) (v := (16383 : Int32)) d8_10 (by decide) rfl ?_
  refine g_iand C (pc' := 14) d8_13 rfl rfl ?_
  rw [show ((0 : Int32) &&& (16383 : Int32)) = (0 : Int32) from by decide]
  refine g_iaload C (pc' := 15) (x := x0) d8_14 rfl A2 (by decide) (by decide) rfl rfl ?_
  exact g_ireturn C d8_15 rfl (Nat.le_of_ble_eq_true rfl) (Nat.le_of_ble_eq_true rfl) (⟨rfl, rfl⟩)
theorem d4_0 : decode prog_10_method_4_code 0 = .ok (.iload_n 1, 1) := by decide +kernel
theorem d4_1 : decode prog_10_method_4_code 1 = .ok (.aload_n 0, 1) := by decide +kernel
theorem d4_2 : decode prog_10_method_4_code 2 = .ok (.getfield 15, 3) := by decide +kernel
theorem d4_5 : decode prog_10_method_4_code 5 = .ok (.invokestatic 29, 3) := by decide +kernel
theorem pd_3 : parseMethodDescriptor "(II)I" = some ⟨[.int, .int], some .int⟩ := by decide +kernel
theorem d4_8 : decode prog_10_method_4_code 8 = .ok (.pop, 1) := by decide +kernel
theorem d4_9 : decode prog_10_method_4_code 9 = .ok (.aload_n 0, 1) := by decide +kernel
theorem d4_10 : decode prog_10_method_4_code 10 = .ok (.getfield 11, 3) := by decide +kernel
theorem d4_13 : decode prog_10_method_4_code 13 = .ok (.iload_n 1, 1) := by decide +kernel
theorem d4_14 : decode prog_10_method_4_code 14 = .ok (.bipush 14, 2) := by decide +kernel
theorem d4_16 : decode prog_10_method_4_code 16 = .ok (.iushr, 1) := by decide +kernel
theorem d4_17 : decode prog_10_method_4_code 17 = .ok (.aaload, 1) := by decide +kernel
theorem d4_18 : decode prog_10_method_4_code 18 = .ok (.iload_n 1, 1) := by decide +kernel
theorem d4_19 : decode prog_10_method_4_code 19 = .ok (.sipush 16383, 3) := by decide +kernel
theorem d4_22 : decode prog_10_method_4_code 22 = .ok (.iand, 1) := by decide +kernel
theorem d4_23 : decode prog_10_method_4_code 23 = .ok (.iload_n 2, 1) := by decide +kernel
theorem d4_24 : decode prog_10_method_4_code 24 = .ok (.iastore, 1) := by decide +kernel
theorem d4_25 : decode prog_10_method_4_code 25 = .ok (.return_, 1) := by decide +kernel
set_option maxRecDepth 65536 in
set_option maxHeartbeats 40000000 in
theorem il_set1_0 (l : Launch) (Z : State) (a0 : Array Value) (hw : ∀ d ∈ tables_1, d.before a0 Z = true) (n0 : Nat) (h : Heap) (O : Old Z n0 h)  (a bl d : Addr) (kB kD : ClassId) (x0 x1 x2 x3 x4 x5 x6 x7 : Int32) (v : Int32) (P : IL Z n0 h a bl d kB kD (1 : Int32) (8 : Int32) [(.int x0), (.int x1), (.int x2), (.int x3), (.int x4), (.int x5), (.int x6), (.int x7)]) : Con l Z (⟨"com/example/ratatoskr/ratatoskr/index/IntList", "set", "(II)V"⟩ : MethodName) prog_10_method_4_code 3 none ({ frames := 2, cells := 0, slots := 0, locals := 27 } : Room) #[(.ref a), (.int (0 : Int32)), (.int v)] h n0 (fun r h' => r = none ∧ Keep h h' [a, bl, d] ∧ IL Z n0 h' a bl d kB kD (1 : Int32) (8 : Int32) [(.int v), (.int x1), (.int x2), (.int x3), (.int x4), (.int x5), (.int x6), (.int x7)]) := by
  refine Con.mk (Ls := #[.val (.ref a), .val (.int (0 : Int32)), .val (.int v)]) (plainFor_of_name pn_0) (fun m => by first | (simp [entryFrame, mkF, argsToLocals, Value.category]; done) | rfl) (fun w C => ?_)
  replace C : Cx w l Z "com/example/ratatoskr/ratatoskr/index/IntList" prog_10_method_4_code 3 none "set" ({ frames := 2, cells := 0, slots := 0, locals := 27 } : Room) n0 := C
  obtain ⟨ga, gb, gd, nab, nad, nbd, Ov, E0, F1, F2, A1, A2⟩ := P
  refine g_iloadN C (pc' := 1) d4_0 rfl rfl ?_
  refine g_aloadN C (pc' := 2) d4_1 rfl rfl rfl ?_
  refine g_getF C (pc' := 5) (wd hw 21 rfl) Via.refl d4_2 rfl F2 rfl ?_
  refine g_callS C (pc' := 8) (k' := 0) (n' := 0) (argsL := [(.int (0 : Int32)), (.int (1 : Int32))]) (rest := []) (wd hw 28 rfl) (wd hw 29 rfl) (wd hw 30 rfl) (wd hw 31 rfl) (by decide) d4_5 pd_3 rfl rfl rfl (oc_0_1 l Z a0 hw n0 h O) (Nat.le_of_ble_eq_true rfl) (Nat.le_of_ble_eq_true rfl) (Nat.le_of_ble_eq_true rfl) (Nat.le_of_ble_eq_true rfl) rfl rfl rfl (fun v110 h109 q111 => ?_)
  obtain ⟨rfl, eh109⟩ := q111
  subst h109
  show G w _ h 0 0 8 #[.val (.ref a), .val (.int (0 : Int32)), .val (.int v)] [(.int (0 : Int32))]
  refine g_pop C (pc' := 9) d4_8 rfl rfl rfl ?_
  refine g_aloadN C (pc' := 10) d4_9 rfl rfl rfl ?_
  refine g_getF C (pc' := 13) (wd hw 14 rfl) Via.refl d4_10 rfl F1 rfl ?_
  refine g_iloadN C (pc' := 14) d4_13 rfl rfl ?_
  refine g_bipush C (pc' := 16) (v := (14 : Int32)) d4_14 (by decide) rfl ?_
  refine g_iushr C (pc' := 17) d4_16 rfl rfl ?_
  rw [show (((0 : Int32).toUInt32 >>> ((14 : Int32) &&& 31).toUInt32).toInt32) = (0 : Int32) from by decide]
  refine g_aaload C (pc' := 18) (x := (.ref d)) d4_17 rfl A1 rfl (by decide) (by decide) rfl rfl ?_
  refine g_iloadN C (pc' := 19) d4_18 rfl rfl ?_
  refine g_sipush C (pc' := 22) (v := (16383 : Int32)) d4_19 (by decide) rfl ?_
  refine g_iand C (pc' := 23) d4_22 rfl rfl ?_
  rw [show ((0 : Int32) &&& (16383 : Int32)) = (0 : Int32) from by decide]
  refine g_iloadN C (pc' := 24) d4_23 rfl rfl ?_
  refine g_iastore C (pc' := 25) d4_24 rfl A2 (by decide) (by decide) gd rfl (fun h112 W113 => ?_)
  have f114 := O.wr W113 gd
  have f115 := E0.wr W113
  have f116 := F1.other W113 (Or.inl nad)
  have f117 := F2.other W113 (Or.inl nad)
  have f118 := A1.other W113 nbd
  have f119 := (arv_put A2 rfl W113 (i := 0) rfl (Nat.le_of_ble_eq_true rfl) : Arv Z h112 d kD .int (8 : Int32) [(.int v), (.int x1), (.int x2), (.int x3), (.int x4), (.int x5), (.int x6), (.int x7)] (.int (0 : Int32)))
  have f120 := (Keep.refl h [a, bl, d]).wr W113 (Or.inl (List.mem_of_getElem? (i := 2) rfl))
  exact g_return C d4_25 rfl (Nat.le_of_ble_eq_true rfl) (Nat.le_of_ble_eq_true rfl) (⟨rfl, f120, ⟨ga, gb, gd, nab, nad, nbd, Ov, f115, f116, f117, f118, f119⟩⟩)
set_option maxRecDepth 65536 in
set_option maxHeartbeats 40000000 in
theorem il_size2 (l : Launch) (Z : State) (a0 : Array Value) (hw : ∀ d ∈ tables_1, d.before a0 Z = true) (n0 : Nat) (h : Heap) (O : Old Z n0 h)  (a bl d : Addr) (kB kD : ClassId) (x0 x1 x2 x3 x4 x5 x6 x7 : Int32) (P : IL Z n0 h a bl d kB kD (2 : Int32) (8 : Int32) [(.int x0), (.int x1), (.int x2), (.int x3), (.int x4), (.int x5), (.int x6), (.int x7)]) : Con l Z (⟨"com/example/ratatoskr/ratatoskr/index/IntList", "size", "()I"⟩ : MethodName) prog_10_method_7_code 1 (some .int) ({ frames := 0, cells := 0, slots := 0, locals := 0 } : Room) #[(.ref a)] h n0 (fun r h' => r = some (.int (2 : Int32)) ∧ h' = h) := by
  refine Con.mk (Ls := #[.val (.ref a)]) (plainFor_of_name pn_0) (fun m => by first | (simp [entryFrame, mkF, argsToLocals, Value.category]; done) | rfl) (fun w C => ?_)
  replace C : Cx w l Z "com/example/ratatoskr/ratatoskr/index/IntList" prog_10_method_7_code 1 (some .int) "size" ({ frames := 0, cells := 0, slots := 0, locals := 0 } : Room) n0 := C
  obtain ⟨ga, gb, gd, nab, nad, nbd, Ov, E0, F1, F2, A1, A2⟩ := P
  refine g_aloadN C (pc' := 1) d7_0 rfl rfl rfl ?_
  refine g_getF C (pc' := 4) (wd hw 21 rfl) Via.refl d7_1 rfl F2 rfl ?_
  exact g_ireturn C d7_4 rfl (Nat.le_of_ble_eq_true rfl) (Nat.le_of_ble_eq_true rfl) (⟨rfl, rfl⟩)
set_option maxRecDepth 65536 in
set_option maxHeartbeats 40000000 in
theorem pc_0_2 (l : Launch) (Z : State) (a0 : Array Value) (hw : ∀ d ∈ tables_1, d.before a0 Z = true) (n0 : Nat) (h : Heap) (O : Old Z n0 h)  : Con l Z (⟨"jdk/internal/util/Preconditions", "checkIndex", "(IILjava/util/function/BiFunction;)I"⟩ : MethodName) jdk_41_method_11_code 3 (some .int) ({ frames := 0, cells := 0, slots := 0, locals := 0 } : Room) #[(.int (0 : Int32)), (.int (2 : Int32)), .null] h n0 (fun r h' => r = some (.int (0 : Int32)) ∧ h' = h) := by
  refine Con.mk (Ls := #[.val (.int (0 : Int32)), .val (.int (2 : Int32)), .val .null]) (plainFor_of_name pn_4) (fun m => by first | (simp [entryFrame, mkF, argsToLocals, Value.category]; done) | rfl) (fun w C => ?_)
  replace C : Cx w l Z "jdk/internal/util/Preconditions" jdk_41_method_11_code 3 (some .int) "checkIndex" ({ frames := 0, cells := 0, slots := 0, locals := 0 } : Room) n0 := C
  refine g_iloadN C (pc' := 1) d6_0 rfl rfl ?_
  refine g_ifN C (pc' := 4) d6_1 rfl (by decide) rfl ?_
  refine g_iloadN C (pc' := 5) d6_4 rfl rfl ?_
  refine g_iloadN C (pc' := 6) d6_5 rfl rfl ?_
  refine g_icY C (pc' := 16) d6_6 rfl (by decide) (by decide) rfl ?_
  refine g_iloadN C (pc' := 17) d6_16 rfl rfl ?_
  exact g_ireturn C d6_17 rfl (Nat.le_of_ble_eq_true rfl) (Nat.le_of_ble_eq_true rfl) (⟨rfl, rfl⟩)
set_option maxRecDepth 65536 in
set_option maxHeartbeats 40000000 in
theorem oc_0_2 (l : Launch) (Z : State) (a0 : Array Value) (hw : ∀ d ∈ tables_1, d.before a0 Z = true) (n0 : Nat) (h : Heap) (O : Old Z n0 h)  : Con l Z (⟨"java/util/Objects", "checkIndex", "(II)I"⟩ : MethodName) jdk_31_method_17_code 2 (some .int) ({ frames := 1, cells := 0, slots := 0, locals := 14 } : Room) #[(.int (0 : Int32)), (.int (2 : Int32))] h n0 (fun r h' => r = some (.int (0 : Int32)) ∧ h' = h) := by
  refine Con.mk (Ls := #[.val (.int (0 : Int32)), .val (.int (2 : Int32))]) (plainFor_of_name pn_3) (fun m => by first | (simp [entryFrame, mkF, argsToLocals, Value.category]; done) | rfl) (fun w C => ?_)
  replace C : Cx w l Z "java/util/Objects" jdk_31_method_17_code 2 (some .int) "checkIndex" ({ frames := 1, cells := 0, slots := 0, locals := 14 } : Room) n0 := C
  refine g_iloadN C (pc' := 1) d5_0 rfl rfl ?_
  refine g_iloadN C (pc' := 2) d5_1 rfl rfl ?_
  refine g_aconstNull C (pc' := 3) d5_2 rfl ?_
  refine g_callS C (pc' := 6) (k' := 0) (n' := 0) (argsL := [(.int (0 : Int32)), (.int (2 : Int32)), .null]) (rest := []) (wd hw 32 rfl) (wd hw 33 rfl) (wd hw 34 rfl) (wd hw 35 rfl) (by decide) d5_3 pd_4 rfl rfl rfl (pc_0_2 l Z a0 hw n0 h O) (Nat.le_of_ble_eq_true rfl) (Nat.le_of_ble_eq_true rfl) (Nat.le_of_ble_eq_true rfl) (Nat.le_of_ble_eq_true rfl) rfl rfl rfl (fun v122 h121 q123 => ?_)
  obtain ⟨rfl, eh121⟩ := q123
  subst h121
  show G w _ h 0 0 6 #[.val (.int (0 : Int32)), .val (.int (2 : Int32))] [(.int (0 : Int32))]
  exact g_ireturn C d5_6 rfl (Nat.le_of_ble_eq_true rfl) (Nat.le_of_ble_eq_true rfl) (⟨rfl, rfl⟩)
set_option maxRecDepth 65536 in
set_option maxHeartbeats 40000000 in
theorem il_get2_0 (l : Launch) (Z : State) (a0 : Array Value) (hw : ∀ d ∈ tables_1, d.before a0 Z = true) (n0 : Nat) (h : Heap) (O : Old Z n0 h)  (a bl d : Addr) (kB kD : ClassId) (x0 x1 x2 x3 x4 x5 x6 x7 : Int32) (P : IL Z n0 h a bl d kB kD (2 : Int32) (8 : Int32) [(.int x0), (.int x1), (.int x2), (.int x3), (.int x4), (.int x5), (.int x6), (.int x7)]) : Con l Z (⟨"com/example/ratatoskr/ratatoskr/index/IntList", "get", "(I)I"⟩ : MethodName) prog_10_method_3_code 2 (some .int) ({ frames := 0, cells := 0, slots := 0, locals := 0 } : Room) #[(.ref a), (.int (0 : Int32))] h n0 (fun r h' => r = some (.int x0) ∧ h' = h) := by
  refine Con.mk (Ls := #[.val (.ref a), .val (.int (0 : Int32))]) (plainFor_of_name pn_0) (fun m => by first | (simp [entryFrame, mkF, argsToLocals, Value.category]; done) | rfl) (fun w C => ?_)
  replace C : Cx w l Z "com/example/ratatoskr/ratatoskr/index/IntList" prog_10_method_3_code 2 (some .int) "get" ({ frames := 0, cells := 0, slots := 0, locals := 0 } : Room) n0 := C
  obtain ⟨ga, gb, gd, nab, nad, nbd, Ov, E0, F1, F2, A1, A2⟩ := P
  refine g_aloadN C (pc' := 1) d8_0 rfl rfl rfl ?_
  refine g_getF C (pc' := 4) (wd hw 14 rfl) Via.refl d8_1 rfl F1 rfl ?_
  refine g_iloadN C (pc' := 5) d8_4 rfl rfl ?_
  refine g_bipush C (pc' := 7) (v := (14 : Int32)) d8_5 (by decide) rfl ?_
  refine g_iushr C (pc' := 8) d8_7 rfl rfl ?_
  rw [show (((0 : Int32).toUInt32 >>> ((14 : Int32) &&& 31).toUInt32).toInt32) = (0 : Int32) from by decide]
  refine g_aaload C (pc' := 9) (x := (.ref d)) d8_8 rfl A1 rfl (by decide) (by decide) rfl rfl ?_
  refine g_iloadN C (pc' := 10) d8_9 rfl rfl ?_
  refine g_sipush C (pc' := 13) (v := (16383 : Int32)) d8_10 (by decide) rfl ?_
  refine g_iand C (pc' := 14) d8_13 rfl rfl ?_
  rw [show ((0 : Int32) &&& (16383 : Int32)) = (0 : Int32) from by decide]
  refine g_iaload C (pc' := 15) (x := x0) d8_14 rfl A2 (by decide) (by decide) rfl rfl ?_
  exact g_ireturn C d8_15 rfl (Nat.le_of_ble_eq_true rfl) (Nat.le_of_ble_eq_true rfl) (⟨rfl, rfl⟩)
set_option maxRecDepth 65536 in
set_option maxHeartbeats 40000000 in
theorem il_set2_0 (l : Launch) (Z : State) (a0 : Array Value) (hw : ∀ d ∈ tables_1, d.before a0 Z = true) (n0 : Nat) (h : Heap) (O : Old Z n0 h)  (a bl d : Addr) (kB kD : ClassId) (x0 x1 x2 x3 x4 x5 x6 x7 : Int32) (v : Int32) (P : IL Z n0 h a bl d kB kD (2 : Int32) (8 : Int32) [(.int x0), (.int x1), (.int x2), (.int x3), (.int x4), (.int x5), (.int x6), (.int x7)]) : Con l Z (⟨"com/example/ratatoskr/ratatoskr/index/IntList", "set", "(II)V"⟩ : MethodName) prog_10_method_4_code 3 none ({ frames := 2, cells := 0, slots := 0, locals := 27 } : Room) #[(.ref a), (.int (0 : Int32)), (.int v)] h n0 (fun r h' => r = none ∧ Keep h h' [a, bl, d] ∧ IL Z n0 h' a bl d kB kD (2 : Int32) (8 : Int32) [(.int v), (.int x1), (.int x2), (.int x3), (.int x4), (.int x5), (.int x6), (.int x7)]) := by
  refine Con.mk (Ls := #[.val (.ref a), .val (.int (0 : Int32)), .val (.int v)]) (plainFor_of_name pn_0) (fun m => by first | (simp [entryFrame, mkF, argsToLocals, Value.category]; done) | rfl) (fun w C => ?_)
  replace C : Cx w l Z "com/example/ratatoskr/ratatoskr/index/IntList" prog_10_method_4_code 3 none "set" ({ frames := 2, cells := 0, slots := 0, locals := 27 } : Room) n0 := C
  obtain ⟨ga, gb, gd, nab, nad, nbd, Ov, E0, F1, F2, A1, A2⟩ := P
  refine g_iloadN C (pc' := 1) d4_0 rfl rfl ?_
  refine g_aloadN C (pc' := 2) d4_1 rfl rfl rfl ?_
  refine g_getF C (pc' := 5) (wd hw 21 rfl) Via.refl d4_2 rfl F2 rfl ?_
  refine g_callS C (pc' := 8) (k' := 0) (n' := 0) (argsL := [(.int (0 : Int32)), (.int (2 : Int32))]) (rest := []) (wd hw 28 rfl) (wd hw 29 rfl) (wd hw 30 rfl) (wd hw 31 rfl) (by decide) d4_5 pd_3 rfl rfl rfl (oc_0_2 l Z a0 hw n0 h O) (Nat.le_of_ble_eq_true rfl) (Nat.le_of_ble_eq_true rfl) (Nat.le_of_ble_eq_true rfl) (Nat.le_of_ble_eq_true rfl) rfl rfl rfl (fun v125 h124 q126 => ?_)
  obtain ⟨rfl, eh124⟩ := q126
  subst h124
  show G w _ h 0 0 8 #[.val (.ref a), .val (.int (0 : Int32)), .val (.int v)] [(.int (0 : Int32))]
  refine g_pop C (pc' := 9) d4_8 rfl rfl rfl ?_
  refine g_aloadN C (pc' := 10) d4_9 rfl rfl rfl ?_
  refine g_getF C (pc' := 13) (wd hw 14 rfl) Via.refl d4_10 rfl F1 rfl ?_
  refine g_iloadN C (pc' := 14) d4_13 rfl rfl ?_
  refine g_bipush C (pc' := 16) (v := (14 : Int32)) d4_14 (by decide) rfl ?_
  refine g_iushr C (pc' := 17) d4_16 rfl rfl ?_
  rw [show (((0 : Int32).toUInt32 >>> ((14 : Int32) &&& 31).toUInt32).toInt32) = (0 : Int32) from by decide]
  refine g_aaload C (pc' := 18) (x := (.ref d)) d4_17 rfl A1 rfl (by decide) (by decide) rfl rfl ?_
  refine g_iloadN C (pc' := 19) d4_18 rfl rfl ?_
  refine g_sipush C (pc' := 22) (v := (16383 : Int32)) d4_19 (by decide) rfl ?_
  refine g_iand C (pc' := 23) d4_22 rfl rfl ?_
  rw [show ((0 : Int32) &&& (16383 : Int32)) = (0 : Int32) from by decide]
  refine g_iloadN C (pc' := 24) d4_23 rfl rfl ?_
  refine g_iastore C (pc' := 25) d4_24 rfl A2 (by decide) (by decide) gd rfl (fun h127 W128 => ?_)
  have f129 := O.wr W128 gd
  have f130 := E0.wr W128
  have f131 := F1.other W128 (Or.inl nad)
  have f132 := F2.other W128 (Or.inl nad)
  have f133 := A1.other W128 nbd
  have f134 := (arv_put A2 rfl W128 (i := 0) rfl (Nat.le_of_ble_eq_true rfl) : Arv Z h127 d kD .int (8 : Int32) [(.int v), (.int x1), (.int x2), (.int x3), (.int x4), (.int x5), (.int x6), (.int x7)] (.int (0 : Int32)))
  have f135 := (Keep.refl h [a, bl, d]).wr W128 (Or.inl (List.mem_of_getElem? (i := 2) rfl))
  exact g_return C d4_25 rfl (Nat.le_of_ble_eq_true rfl) (Nat.le_of_ble_eq_true rfl) (⟨rfl, f135, ⟨ga, gb, gd, nab, nad, nbd, Ov, f130, f131, f132, f133, f134⟩⟩)
set_option maxRecDepth 65536 in
set_option maxHeartbeats 40000000 in
theorem pc_1_2 (l : Launch) (Z : State) (a0 : Array Value) (hw : ∀ d ∈ tables_1, d.before a0 Z = true) (n0 : Nat) (h : Heap) (O : Old Z n0 h)  : Con l Z (⟨"jdk/internal/util/Preconditions", "checkIndex", "(IILjava/util/function/BiFunction;)I"⟩ : MethodName) jdk_41_method_11_code 3 (some .int) ({ frames := 0, cells := 0, slots := 0, locals := 0 } : Room) #[(.int (1 : Int32)), (.int (2 : Int32)), .null] h n0 (fun r h' => r = some (.int (1 : Int32)) ∧ h' = h) := by
  refine Con.mk (Ls := #[.val (.int (1 : Int32)), .val (.int (2 : Int32)), .val .null]) (plainFor_of_name pn_4) (fun m => by first | (simp [entryFrame, mkF, argsToLocals, Value.category]; done) | rfl) (fun w C => ?_)
  replace C : Cx w l Z "jdk/internal/util/Preconditions" jdk_41_method_11_code 3 (some .int) "checkIndex" ({ frames := 0, cells := 0, slots := 0, locals := 0 } : Room) n0 := C
  refine g_iloadN C (pc' := 1) d6_0 rfl rfl ?_
  refine g_ifN C (pc' := 4) d6_1 rfl (by decide) rfl ?_
  refine g_iloadN C (pc' := 5) d6_4 rfl rfl ?_
  refine g_iloadN C (pc' := 6) d6_5 rfl rfl ?_
  refine g_icY C (pc' := 16) d6_6 rfl (by decide) (by decide) rfl ?_
  refine g_iloadN C (pc' := 17) d6_16 rfl rfl ?_
  exact g_ireturn C d6_17 rfl (Nat.le_of_ble_eq_true rfl) (Nat.le_of_ble_eq_true rfl) (⟨rfl, rfl⟩)
set_option maxRecDepth 65536 in
set_option maxHeartbeats 40000000 in
theorem oc_1_2 (l : Launch) (Z : State) (a0 : Array Value) (hw : ∀ d ∈ tables_1, d.before a0 Z = true) (n0 : Nat) (h : Heap) (O : Old Z n0 h)  : Con l Z (⟨"java/util/Objects", "checkIndex", "(II)I"⟩ : MethodName) jdk_31_method_17_code 2 (some .int) ({ frames := 1, cells := 0, slots := 0, locals := 14 } : Room) #[(.int (1 : Int32)), (.int (2 : Int32))] h n0 (fun r h' => r = some (.int (1 : Int32)) ∧ h' = h) := by
  refine Con.mk (Ls := #[.val (.int (1 : Int32)), .val (.int (2 : Int32))]) (plainFor_of_name pn_3) (fun m => by first | (simp [entryFrame, mkF, argsToLocals, Value.category]; done) | rfl) (fun w C => ?_)
  replace C : Cx w l Z "java/util/Objects" jdk_31_method_17_code 2 (some .int) "checkIndex" ({ frames := 1, cells := 0, slots := 0, locals := 14 } : Room) n0 := C
  refine g_iloadN C (pc' := 1) d5_0 rfl rfl ?_
  refine g_iloadN C (pc' := 2) d5_1 rfl rfl ?_
  refine g_aconstNull C (pc' := 3) d5_2 rfl ?_
  refine g_callS C (pc' := 6) (k' := 0) (n' := 0) (argsL := [(.int (1 : Int32)), (.int (2 : Int32)), .null]) (rest := []) (wd hw 32 rfl) (wd hw 33 rfl) (wd hw 34 rfl) (wd hw 35 rfl) (by decide) d5_3 pd_4 rfl rfl rfl (pc_1_2 l Z a0 hw n0 h O) (Nat.le_of_ble_eq_true rfl) (Nat.le_of_ble_eq_true rfl) (Nat.le_of_ble_eq_true rfl) (Nat.le_of_ble_eq_true rfl) rfl rfl rfl (fun v137 h136 q138 => ?_)
  obtain ⟨rfl, eh136⟩ := q138
  subst h136
  show G w _ h 0 0 6 #[.val (.int (1 : Int32)), .val (.int (2 : Int32))] [(.int (1 : Int32))]
  exact g_ireturn C d5_6 rfl (Nat.le_of_ble_eq_true rfl) (Nat.le_of_ble_eq_true rfl) (⟨rfl, rfl⟩)
set_option maxRecDepth 65536 in
set_option maxHeartbeats 40000000 in
theorem il_get2_1 (l : Launch) (Z : State) (a0 : Array Value) (hw : ∀ d ∈ tables_1, d.before a0 Z = true) (n0 : Nat) (h : Heap) (O : Old Z n0 h)  (a bl d : Addr) (kB kD : ClassId) (x0 x1 x2 x3 x4 x5 x6 x7 : Int32) (P : IL Z n0 h a bl d kB kD (2 : Int32) (8 : Int32) [(.int x0), (.int x1), (.int x2), (.int x3), (.int x4), (.int x5), (.int x6), (.int x7)]) : Con l Z (⟨"com/example/ratatoskr/ratatoskr/index/IntList", "get", "(I)I"⟩ : MethodName) prog_10_method_3_code 2 (some .int) ({ frames := 0, cells := 0, slots := 0, locals := 0 } : Room) #[(.ref a), (.int (1 : Int32))] h n0 (fun r h' => r = some (.int x1) ∧ h' = h) := by
  refine Con.mk (Ls := #[.val (.ref a), .val (.int (1 : Int32))]) (plainFor_of_name pn_0) (fun m => by first | (simp [entryFrame, mkF, argsToLocals, Value.category]; done) | rfl) (fun w C => ?_)
  replace C : Cx w l Z "com/example/ratatoskr/ratatoskr/index/IntList" prog_10_method_3_code 2 (some .int) "get" ({ frames := 0, cells := 0, slots := 0, locals := 0 } : Room) n0 := C
  obtain ⟨ga, gb, gd, nab, nad, nbd, Ov, E0, F1, F2, A1, A2⟩ := P
  refine g_aloadN C (pc' := 1) d8_0 rfl rfl rfl ?_
  refine g_getF C (pc' := 4) (wd hw 14 rfl) Via.refl d8_1 rfl F1 rfl ?_
  refine g_iloadN C (pc' := 5) d8_4 rfl rfl ?_
  refine g_bipush C (pc' := 7) (v := (14 : Int32)) d8_5 (by decide) rfl ?_
  refine g_iushr C (pc' := 8) d8_7 rfl rfl ?_
  rw [show (((1 : Int32).toUInt32 >>> ((14 : Int32) &&& 31).toUInt32).toInt32) = (0 : Int32) from by decide]
  refine g_aaload C (pc' := 9) (x := (.ref d)) d8_8 rfl A1 rfl (by decide) (by decide) rfl rfl ?_
  refine g_iloadN C (pc' := 10) d8_9 rfl rfl ?_
  refine g_sipush C (pc' := 13) (v := (16383 : Int32)) d8_10 (by decide) rfl ?_
  refine g_iand C (pc' := 14) d8_13 rfl rfl ?_
  rw [show ((1 : Int32) &&& (16383 : Int32)) = (1 : Int32) from by decide]
  refine g_iaload C (pc' := 15) (x := x1) d8_14 rfl A2 (by decide) (by decide) rfl rfl ?_
  exact g_ireturn C d8_15 rfl (Nat.le_of_ble_eq_true rfl) (Nat.le_of_ble_eq_true rfl) (⟨rfl, rfl⟩)
set_option maxRecDepth 65536 in
set_option maxHeartbeats 40000000 in
theorem il_set2_1 (l : Launch) (Z : State) (a0 : Array Value) (hw : ∀ d ∈ tables_1, d.before a0 Z = true) (n0 : Nat) (h : Heap) (O : Old Z n0 h)  (a bl d : Addr) (kB kD : ClassId) (x0 x1 x2 x3 x4 x5 x6 x7 : Int32) (v : Int32) (P : IL Z n0 h a bl d kB kD (2 : Int32) (8 : Int32) [(.int x0), (.int x1), (.int x2), (.int x3), (.int x4), (.int x5), (.int x6), (.int x7)]) : Con l Z (⟨"com/example/ratatoskr/ratatoskr/index/IntList", "set", "(II)V"⟩ : MethodName) prog_10_method_4_code 3 none ({ frames := 2, cells := 0, slots := 0, locals := 27 } : Room) #[(.ref a), (.int (1 : Int32)), (.int v)] h n0 (fun r h' => r = none ∧ Keep h h' [a, bl, d] ∧ IL Z n0 h' a bl d kB kD (2 : Int32) (8 : Int32) [(.int x0), (.int v), (.int x2), (.int x3), (.int x4), (.int x5), (.int x6), (.int x7)]) := by
  refine Con.mk (Ls := #[.val (.ref a), .val (.int (1 : Int32)), .val (.int v)]) (plainFor_of_name pn_0) (fun m => by first | (simp [entryFrame, mkF, argsToLocals, Value.category]; done) | rfl) (fun w C => ?_)
  replace C : Cx w l Z "com/example/ratatoskr/ratatoskr/index/IntList" prog_10_method_4_code 3 none "set" ({ frames := 2, cells := 0, slots := 0, locals := 27 } : Room) n0 := C
  obtain ⟨ga, gb, gd, nab, nad, nbd, Ov, E0, F1, F2, A1, A2⟩ := P
  refine g_iloadN C (pc' := 1) d4_0 rfl rfl ?_
  refine g_aloadN C (pc' := 2) d4_1 rfl rfl rfl ?_
  refine g_getF C (pc' := 5) (wd hw 21 rfl) Via.refl d4_2 rfl F2 rfl ?_
  refine g_callS C (pc' := 8) (k' := 0) (n' := 0) (argsL := [(.int (1 : Int32)), (.int (2 : Int32))]) (rest := []) (wd hw 28 rfl) (wd hw 29 rfl) (wd hw 30 rfl) (wd hw 31 rfl) (by decide) d4_5 pd_3 rfl rfl rfl (oc_1_2 l Z a0 hw n0 h O) (Nat.le_of_ble_eq_true rfl) (Nat.le_of_ble_eq_true rfl) (Nat.le_of_ble_eq_true rfl) (Nat.le_of_ble_eq_true rfl) rfl rfl rfl (fun v140 h139 q141 => ?_)
  obtain ⟨rfl, eh139⟩ := q141
  subst h139
  show G w _ h 0 0 8 #[.val (.ref a), .val (.int (1 : Int32)), .val (.int v)] [(.int (1 : Int32))]
  refine g_pop C (pc' := 9) d4_8 rfl rfl rfl ?_
  refine g_aloadN C (pc' := 10) d4_9 rfl rfl rfl ?_
  refine g_getF C (pc' := 13) (wd hw 14 rfl) Via.refl d4_10 rfl F1 rfl ?_
  refine g_iloadN C (pc' := 14) d4_13 rfl rfl ?_
  refine g_bipush C (pc' := 16) (v := (14 : Int32)) d4_14 (by decide) rfl ?_
  refine g_iushr C (pc' := 17) d4_16 rfl rfl ?_
  rw [show (((1 : Int32).toUInt32 >>> ((14 : Int32) &&& 31).toUInt32).toInt32) = (0 : Int32) from by decide]
  refine g_aaload C (pc' := 18) (x := (.ref d)) d4_17 rfl A1 rfl (by decide) (by decide) rfl rfl ?_
  refine g_iloadN C (pc' := 19) d4_18 rfl rfl ?_
  refine g_sipush C (pc' := 22) (v := (16383 : Int32)) d4_19 (by decide) rfl ?_
  refine g_iand C (pc' := 23) d4_22 rfl rfl ?_
  rw [show ((1 : Int32) &&& (16383 : Int32)) = (1 : Int32) from by decide]
  refine g_iloadN C (pc' := 24) d4_23 rfl rfl ?_
  refine g_iastore C (pc' := 25) d4_24 rfl A2 (by decide) (by decide) gd rfl (fun h142 W143 => ?_)
  have f144 := O.wr W143 gd
  have f145 := E0.wr W143
  have f146 := F1.other W143 (Or.inl nad)
  have f147 := F2.other W143 (Or.inl nad)
  have f148 := A1.other W143 nbd
  have f149 := (arv_put A2 rfl W143 (i := 1) rfl (Nat.le_of_ble_eq_true rfl) : Arv Z h142 d kD .int (8 : Int32) [(.int x0), (.int v), (.int x2), (.int x3), (.int x4), (.int x5), (.int x6), (.int x7)] (.int (0 : Int32)))
  have f150 := (Keep.refl h [a, bl, d]).wr W143 (Or.inl (List.mem_of_getElem? (i := 2) rfl))
  exact g_return C d4_25 rfl (Nat.le_of_ble_eq_true rfl) (Nat.le_of_ble_eq_true rfl) (⟨rfl, f150, ⟨ga, gb, gd, nab, nad, nbd, Ov, f145, f146, f147, f148, f149⟩⟩)
set_option maxRecDepth 65536 in
set_option maxHeartbeats 40000000 in
theorem il_size3 (l : Launch) (Z : State) (a0 : Array Value) (hw : ∀ d ∈ tables_1, d.before a0 Z = true) (n0 : Nat) (h : Heap) (O : Old Z n0 h)  (a bl d : Addr) (kB kD : ClassId) (x0 x1 x2 x3 x4 x5 x6 x7 : Int32) (P : IL Z n0 h a bl d kB kD (3 : Int32) (8 : Int32) [(.int x0), (.int x1), (.int x2), (.int x3), (.int x4), (.int x5), (.int x6), (.int x7)]) : Con l Z (⟨"com/example/ratatoskr/ratatoskr/index/IntList", "size", "()I"⟩ : MethodName) prog_10_method_7_code 1 (some .int) ({ frames := 0, cells := 0, slots := 0, locals := 0 } : Room) #[(.ref a)] h n0 (fun r h' => r = some (.int (3 : Int32)) ∧ h' = h) := by
  refine Con.mk (Ls := #[.val (.ref a)]) (plainFor_of_name pn_0) (fun m => by first | (simp [entryFrame, mkF, argsToLocals, Value.category]; done) | rfl) (fun w C => ?_)
  replace C : Cx w l Z "com/example/ratatoskr/ratatoskr/index/IntList" prog_10_method_7_code 1 (some .int) "size" ({ frames := 0, cells := 0, slots := 0, locals := 0 } : Room) n0 := C
  obtain ⟨ga, gb, gd, nab, nad, nbd, Ov, E0, F1, F2, A1, A2⟩ := P
  refine g_aloadN C (pc' := 1) d7_0 rfl rfl rfl ?_
  refine g_getF C (pc' := 4) (wd hw 21 rfl) Via.refl d7_1 rfl F2 rfl ?_
  exact g_ireturn C d7_4 rfl (Nat.le_of_ble_eq_true rfl) (Nat.le_of_ble_eq_true rfl) (⟨rfl, rfl⟩)
set_option maxRecDepth 65536 in
set_option maxHeartbeats 40000000 in
theorem pc_0_3 (l : Launch) (Z : State) (a0 : Array Value) (hw : ∀ d ∈ tables_1, d.before a0 Z = true) (n0 : Nat) (h : Heap) (O : Old Z n0 h)  : Con l Z (⟨"jdk/internal/util/Preconditions", "checkIndex", "(IILjava/util/function/BiFunction;)I"⟩ : MethodName) jdk_41_method_11_code 3 (some .int) ({ frames := 0, cells := 0, slots := 0, locals := 0 } : Room) #[(.int (0 : Int32)), (.int (3 : Int32)), .null] h n0 (fun r h' => r = some (.int (0 : Int32)) ∧ h' = h) := by
  refine Con.mk (Ls := #[.val (.int (0 : Int32)), .val (.int (3 : Int32)), .val .null]) (plainFor_of_name pn_4) (fun m => by first | (simp [entryFrame, mkF, argsToLocals, Value.category]; done) | rfl) (fun w C => ?_)
  replace C : Cx w l Z "jdk/internal/util/Preconditions" jdk_41_method_11_code 3 (some .int) "checkIndex" ({ frames := 0, cells := 0, slots := 0, locals := 0 } : Room) n0 := C
  refine g_iloadN C (pc' := 1) d6_0 rfl rfl ?_
  refine g_ifN C (pc' := 4) d6_1 rfl (by decide) rfl ?_
  refine g_iloadN C (pc' := 5) d6_4 rfl rfl ?_
  refine g_iloadN C (pc' := 6) d6_5 rfl rfl ?_
  refine g_icY C (pc' := 16) d6_6 rfl (by decide) (by decide) rfl ?_
  refine g_iloadN C (pc' := 17) d6_16 rfl rfl ?_
  exact g_ireturn C d6_17 rfl (Nat.le_of_ble_eq_true rfl) (Nat.le_of_ble_eq_true rfl) (⟨rfl, rfl⟩)
set_option maxRecDepth 65536 in
set_option maxHeartbeats 40000000 in
theorem oc_0_3 (l : Launch) (Z : State) (a0 : Array Value) (hw : ∀ d ∈ tables_1, d.before a0 Z = true) (n0 : Nat) (h : Heap) (O : Old Z n0 h)  : Con l Z (⟨"java/util/Objects", "checkIndex", "(II)I"⟩ : MethodName) jdk_31_method_17_code 2 (some .int) ({ frames := 1, cells := 0, slots := 0, locals := 14 } : Room) #[(.int (0 : Int32)), (.int (3 : Int32))] h n0 (fun r h' => r = some (.int (0 : Int32)) ∧ h' = h) := by
  refine Con.mk (Ls := #[.val (.int (0 : Int32)), .val (.int (3 : Int32))]) (plainFor_of_name pn_3) (fun m => by first | (simp [entryFrame, mkF, argsToLocals, Value.category]; done) | rfl) (fun w C => ?_)
  replace C : Cx w l Z "java/util/Objects" jdk_31_method_17_code 2 (some .int) "checkIndex" ({ frames := 1, cells := 0, slots := 0, locals := 14 } : Room) n0 := C
  refine g_iloadN C (pc' := 1) d5_0 rfl rfl ?_
  refine g_iloadN C (pc' := 2) d5_1 rfl rfl ?_
  refine g_aconstNull C (pc' := 3) d5_2 rfl ?_
  refine g_callS C (pc' := 6) (k' := 0) (n' := 0) (argsL := [(.int (0 : Int32)), (.int (3 : Int32)), .null]) (rest := []) (wd hw 32 rfl) (wd hw 33 rfl) (wd hw 34 rfl) (wd hw 35 rfl) (by decide) d5_3 pd_4 rfl rfl rfl (pc_0_3 l Z a0 hw n0 h O) (Nat.le_of_ble_eq_true rfl) (Nat.le_of_ble_eq_true rfl) (Nat.le_of_ble_eq_true rfl) (Nat.le_of_ble_eq_true rfl) rfl rfl rfl (fun v152 h151 q153 => ?_)
  obtain ⟨rfl, eh151⟩ := q153
  subst h151
  show G w _ h 0 0 6 #[.val (.int (0 : Int32)), .val (.int (3 : Int32))] [(.int (0 : Int32))]
  exact g_ireturn C d5_6 rfl (Nat.le_of_ble_eq_true rfl) (Nat.le_of_ble_eq_true rfl) (⟨rfl, rfl⟩)
set_option maxRecDepth 65536 in
set_option maxHeartbeats 40000000 in
theorem il_get3_0 (l : Launch) (Z : State) (a0 : Array Value) (hw : ∀ d ∈ tables_1, d.before a0 Z = true) (n0 : Nat) (h : Heap) (O : Old Z n0 h)  (a bl d : Addr) (kB kD : ClassId) (x0 x1 x2 x3 x4 x5 x6 x7 : Int32) (P : IL Z n0 h a bl d kB kD (3 : Int32) (8 : Int32) [(.int x0), (.int x1), (.int x2), (.int x3), (.int x4), (.int x5), (.int x6), (.int x7)]) : Con l Z (⟨"com/example/ratatoskr/ratatoskr/index/IntList", "get", "(I)I"⟩ : MethodName) prog_10_method_3_code 2 (some .int) ({ frames := 0, cells := 0, slots := 0, locals := 0 } : Room) #[(.ref a), (.int (0 : Int32))] h n0 (fun r h' => r = some (.int x0) ∧ h' = h) := by
  refine Con.mk (Ls := #[.val (.ref a), .val (.int (0 : Int32))]) (plainFor_of_name pn_0) (fun m => by first | (simp [entryFrame, mkF, argsToLocals, Value.category]; done) | rfl) (fun w C => ?_)
  replace C : Cx w l Z "com/example/ratatoskr/ratatoskr/index/IntList" prog_10_method_3_code 2 (some .int) "get" ({ frames := 0, cells := 0, slots := 0, locals := 0 } : Room) n0 := C
  obtain ⟨ga, gb, gd, nab, nad, nbd, Ov, E0, F1, F2, A1, A2⟩ := P
  refine g_aloadN C (pc' := 1) d8_0 rfl rfl rfl ?_
  refine g_getF C (pc' := 4) (wd hw 14 rfl) Via.refl d8_1 rfl F1 rfl ?_
  refine g_iloadN C (pc' := 5) d8_4 rfl rfl ?_
  refine g_bipush C (pc' := 7) (v := (14 : Int32)) d8_5 (by decide) rfl ?_
  refine g_iushr C (pc' := 8) d8_7 rfl rfl ?_
  rw [show (((0 : Int32).toUInt32 >>> ((14 : Int32) &&& 31).toUInt32).toInt32) = (0 : Int32) from by decide]
  refine g_aaload C (pc' := 9) (x := (.ref d)) d8_8 rfl A1 rfl (by decide) (by decide) rfl rfl ?_
  refine g_iloadN C (pc' := 10) d8_9 rfl rfl ?_
  refine g_sipush C (pc' := 13) (v := (16383 : Int32)) d8_10 (by decide) rfl ?_
  refine g_iand C (pc' := 14) d8_13 rfl rfl ?_
  rw [show ((0 : Int32) &&& (16383 : Int32)) = (0 : Int32) from by decide]
  refine g_iaload C (pc' := 15) (x := x0) d8_14 rfl A2 (by decide) (by decide) rfl rfl ?_
  exact g_ireturn C d8_15 rfl (Nat.le_of_ble_eq_true rfl) (Nat.le_of_ble_eq_true rfl) (⟨rfl, rfl⟩)
set_option maxRecDepth 65536 in
set_option maxHeartbeats 40000000 in
theorem il_set3_0 (l : Launch) (Z : State) (a0 : Array Value) (hw : ∀ d ∈ tables_1, d.before a0 Z = true) (n0 : Nat) (h : Heap) (O : Old Z n0 h)  (a bl d : Addr) (kB kD : ClassId) (x0 x1 x2 x3 x4 x5 x6 x7 : Int32) (v : Int32) (P : IL Z n0 h a bl d kB kD (3 : Int32) (8 : Int32) [(.int x0), (.int x1), (.int x2), (.int x3), (.int x4), (.int x5), (.int x6), (.int x7)]) : Con l Z (⟨"com/example/ratatoskr/ratatoskr/index/IntList", "set", "(II)V"⟩ : MethodName) prog_10_method_4_code 3 none ({ frames := 2, cells := 0, slots := 0, locals := 27 } : Room) #[(.ref a), (.int (0 : Int32)), (.int v)] h n0 (fun r h' => r = none ∧ Keep h h' [a, bl, d] ∧ IL Z n0 h' a bl d kB kD (3 : Int32) (8 : Int32) [(.int v), (.int x1), (.int x2), (.int x3), (.int x4), (.int x5), (.int x6), (.int x7)]) := by
  refine Con.mk (Ls := #[.val (.ref a), .val (.int (0 : Int32)), .val (.int v)]) (plainFor_of_name pn_0) (fun m => by first | (simp [entryFrame, mkF, argsToLocals, Value.category]; done) | rfl) (fun w C => ?_)
  replace C : Cx w l Z "com/example/ratatoskr/ratatoskr/index/IntList" prog_10_method_4_code 3 none "set" ({ frames := 2, cells := 0, slots := 0, locals := 27 } : Room) n0 := C
  obtain ⟨ga, gb, gd, nab, nad, nbd, Ov, E0, F1, F2, A1, A2⟩ := P
  refine g_iloadN C (pc' := 1) d4_0 rfl rfl ?_
  refine g_aloadN C (pc' := 2) d4_1 rfl rfl rfl ?_
  refine g_getF C (pc' := 5) (wd hw 21 rfl) Via.refl d4_2 rfl F2 rfl ?_
  refine g_callS C (pc' := 8) (k' := 0) (n' := 0) (argsL := [(.int (0 : Int32)), (.int (3 : Int32))]) (rest := []) (wd hw 28 rfl) (wd hw 29 rfl) (wd hw 30 rfl) (wd hw 31 rfl) (by decide) d4_5 pd_3 rfl rfl rfl (oc_0_3 l Z a0 hw n0 h O) (Nat.le_of_ble_eq_true rfl) (Nat.le_of_ble_eq_true rfl) (Nat.le_of_ble_eq_true rfl) (Nat.le_of_ble_eq_true rfl) rfl rfl rfl (fun v155 h154 q156 => ?_)
  obtain ⟨rfl, eh154⟩ := q156
  subst h154
  show G w _ h 0 0 8 #[.val (.ref a), .val (.int (0 : Int32)), .val (.int v)] [(.int (0 : Int32))]
  refine g_pop C (pc' := 9) d4_8 rfl rfl rfl ?_
  refine g_aloadN C (pc' := 10) d4_9 rfl rfl rfl ?_
  refine g_getF C (pc' := 13) (wd hw 14 rfl) Via.refl d4_10 rfl F1 rfl ?_
  refine g_iloadN C (pc' := 14) d4_13 rfl rfl ?_
  refine g_bipush C (pc' := 16) (v := (14 : Int32)) d4_14 (by decide) rfl ?_
  refine g_iushr C (pc' := 17) d4_16 rfl rfl ?_
  rw [show (((0 : Int32).toUInt32 >>> ((14 : Int32) &&& 31).toUInt32).toInt32) = (0 : Int32) from by decide]
  refine g_aaload C (pc' := 18) (x := (.ref d)) d4_17 rfl A1 rfl (by decide) (by decide) rfl rfl ?_
  refine g_iloadN C (pc' := 19) d4_18 rfl rfl ?_
  refine g_sipush C (pc' := 22) (v := (16383 : Int32)) d4_19 (by decide) rfl ?_
  refine g_iand C (pc' := 23) d4_22 rfl rfl ?_
  rw [show ((0 : Int32) &&& (16383 : Int32)) = (0 : Int32) from by decide]
  refine g_iloadN C (pc' := 24) d4_23 rfl rfl ?_
  refine g_iastore C (pc' := 25) d4_24 rfl A2 (by decide) (by decide) gd rfl (fun h157 W158 => ?_)
  have f159 := O.wr W158 gd
  have f160 := E0.wr W158
  have f161 := F1.other W158 (Or.inl nad)
  have f162 := F2.other W158 (Or.inl nad)
  have f163 := A1.other W158 nbd
  have f164 := (arv_put A2 rfl W158 (i := 0) rfl (Nat.le_of_ble_eq_true rfl) : Arv Z h157 d kD .int (8 : Int32) [(.int v), (.int x1), (.int x2), (.int x3), (.int x4), (.int x5), (.int x6), (.int x7)] (.int (0 : Int32)))
  have f165 := (Keep.refl h [a, bl, d]).wr W158 (Or.inl (List.mem_of_getElem? (i := 2) rfl))
  exact g_return C d4_25 rfl (Nat.le_of_ble_eq_true rfl) (Nat.le_of_ble_eq_true rfl) (⟨rfl, f165, ⟨ga, gb, gd, nab, nad, nbd, Ov, f160, f161, f162, f163, f164⟩⟩)
set_option maxRecDepth 65536 in
set_option maxHeartbeats 40000000 in
theorem pc_1_3 (l : Launch) (Z : State) (a0 : Array Value) (hw : ∀ d ∈ tables_1, d.before a0 Z = true) (n0 : Nat) (h : Heap) (O : Old Z n0 h)  : Con l Z (⟨"jdk/internal/util/Preconditions", "checkIndex", "(IILjava/util/function/BiFunction;)I"⟩ : MethodName) jdk_41_method_11_code 3 (some .int) ({ frames := 0, cells := 0, slots := 0, locals := 0 } : Room) #[(.int (1 : Int32)), (.int (3 : Int32)), .null] h n0 (fun r h' => r = some (.int (1 : Int32)) ∧ h' = h) := by
  refine Con.mk (Ls := #[.val (.int (1 : Int32)), .val (.int (3 : Int32)), .val .null]) (plainFor_of_name pn_4) (fun m => by first | (simp [entryFrame, mkF, argsToLocals, Value.category]; done) | rfl) (fun w C => ?_)
  replace C : Cx w l Z "jdk/internal/util/Preconditions" jdk_41_method_11_code 3 (some .int) "checkIndex" ({ frames := 0, cells := 0, slots := 0, locals := 0 } : Room) n0 := C
  refine g_iloadN C (pc' := 1) d6_0 rfl rfl ?_
  refine g_ifN C (pc' := 4) d6_1 rfl (by decide) rfl ?_
  refine g_iloadN C (pc' := 5) d6_4 rfl rfl ?_
  refine g_iloadN C (pc' := 6) d6_5 rfl rfl ?_
  refine g_icY C (pc' := 16) d6_6 rfl (by decide) (by decide) rfl ?_
  refine g_iloadN C (pc' := 17) d6_16 rfl rfl ?_
  exact g_ireturn C d6_17 rfl (Nat.le_of_ble_eq_true rfl) (Nat.le_of_ble_eq_true rfl) (⟨rfl, rfl⟩)
set_option maxRecDepth 65536 in
set_option maxHeartbeats 40000000 in
theorem oc_1_3 (l : Launch) (Z : State) (a0 : Array Value) (hw : ∀ d ∈ tables_1, d.before a0 Z = true) (n0 : Nat) (h : Heap) (O : Old Z n0 h)  : Con l Z (⟨"java/util/Objects", "checkIndex", "(II)I"⟩ : MethodName) jdk_31_method_17_code 2 (some .int) ({ frames := 1, cells := 0, slots := 0, locals := 14 } : Room) #[(.int (1 : Int32)), (.int (3 : Int32))] h n0 (fun r h' => r = some (.int (1 : Int32)) ∧ h' = h) := by
  refine Con.mk (Ls := #[.val (.int (1 : Int32)), .val (.int (3 : Int32))]) (plainFor_of_name pn_3) (fun m => by first | (simp [entryFrame, mkF, argsToLocals, Value.category]; done) | rfl) (fun w C => ?_)
  replace C : Cx w l Z "java/util/Objects" jdk_31_method_17_code 2 (some .int) "checkIndex" ({ frames := 1, cells := 0, slots := 0, locals := 14 } : Room) n0 := C
  refine g_iloadN C (pc' := 1) d5_0 rfl rfl ?_
  refine g_iloadN C (pc' := 2) d5_1 rfl rfl ?_
  refine g_aconstNull C (pc' := 3) d5_2 rfl ?_
  refine g_callS C (pc' := 6) (k' := 0) (n' := 0) (argsL := [(.int (1 : Int32)), (.int (3 : Int32)), .null]) (rest := []) (wd hw 32 rfl) (wd hw 33 rfl) (wd hw 34 rfl) (wd hw 35 rfl) (by decide) d5_3 pd_4 rfl rfl rfl (pc_1_3 l Z a0 hw n0 h O) (Nat.le_of_ble_eq_true rfl) (Nat.le_of_ble_eq_true rfl) (Nat.le_of_ble_eq_true rfl) (Nat.le_of_ble_eq_true rfl) rfl rfl rfl (fun v167 h166 q168 => ?_)
  obtain ⟨rfl, eh166⟩ := q168
  subst h166
  show G w _ h 0 0 6 #[.val (.int (1 : Int32)), .val (.int (3 : Int32))] [(.int (1 : Int32))]
  exact g_ireturn C d5_6 rfl (Nat.le_of_ble_eq_true rfl) (Nat.le_of_ble_eq_true rfl) (⟨rfl, rfl⟩)
set_option maxRecDepth 65536 in
set_option maxHeartbeats 40000000 in
theorem il_get3_1 (l : Launch) (Z : State) (a0 : Array Value) (hw : ∀ d ∈ tables_1, d.before a0 Z = true) (n0 : Nat) (h : Heap) (O : Old Z n0 h)  (a bl d : Addr) (kB kD : ClassId) (x0 x1 x2 x3 x4 x5 x6 x7 : Int32) (P : IL Z n0 h a bl d kB kD (3 : Int32) (8 : Int32) [(.int x0), (.int x1), (.int x2), (.int x3), (.int x4), (.int x5), (.int x6), (.int x7)]) : Con l Z (⟨"com/example/ratatoskr/ratatoskr/index/IntList", "get", "(I)I"⟩ : MethodName) prog_10_method_3_code 2 (some .int) ({ frames := 0, cells := 0, slots := 0, locals := 0 } : Room) #[(.ref a), (.int (1 : Int32))] h n0 (fun r h' => r = some (.int x1) ∧ h' = h) := by
  refine Con.mk (Ls := #[.val (.ref a), .val (.int (1 : Int32))]) (plainFor_of_name pn_0) (fun m => by first | (simp [entryFrame, mkF, argsToLocals, Value.category]; done) | rfl) (fun w C => ?_)
  replace C : Cx w l Z "com/example/ratatoskr/ratatoskr/index/IntList" prog_10_method_3_code 2 (some .int) "get" ({ frames := 0, cells := 0, slots := 0, locals := 0 } : Room) n0 := C
  obtain ⟨ga, gb, gd, nab, nad, nbd, Ov, E0, F1, F2, A1, A2⟩ := P
  refine g_aloadN C (pc' := 1) d8_0 rfl rfl rfl ?_
  refine g_getF C (pc' := 4) (wd hw 14 rfl) Via.refl d8_1 rfl F1 rfl ?_
  refine g_iloadN C (pc' := 5) d8_4 rfl rfl ?_
  refine g_bipush C (pc' := 7) (v := (14 : Int32)) d8_5 (by decide) rfl ?_
  refine g_iushr C (pc' := 8) d8_7 rfl rfl ?_
  rw [show (((1 : Int32).toUInt32 >>> ((14 : Int32) &&& 31).toUInt32).toInt32) = (0 : Int32) from by decide]
  refine g_aaload C (pc' := 9) (x := (.ref d)) d8_8 rfl A1 rfl (by decide) (by decide) rfl rfl ?_
  refine g_iloadN C (pc' := 10) d8_9 rfl rfl ?_
  refine g_sipush C (pc' := 13) (v := (16383 : Int32)) d8_10 (by decide) rfl ?_
  refine g_iand C (pc' := 14) d8_13 rfl rfl ?_
  rw [show ((1 : Int32) &&& (16383 : Int32)) = (1 : Int32) from by decide]
  refine g_iaload C (pc' := 15) (x := x1) d8_14 rfl A2 (by decide) (by decide) rfl rfl ?_
  exact g_ireturn C d8_15 rfl (Nat.le_of_ble_eq_true rfl) (Nat.le_of_ble_eq_true rfl) (⟨rfl, rfl⟩)
set_option maxRecDepth 65536 in
set_option maxHeartbeats 40000000 in
theorem il_set3_1 (l : Launch) (Z : State) (a0 : Array Value) (hw : ∀ d ∈ tables_1, d.before a0 Z = true) (n0 : Nat) (h : Heap) (O : Old Z n0 h)  (a bl d : Addr) (kB kD : ClassId) (x0 x1 x2 x3 x4 x5 x6 x7 : Int32) (v : Int32) (P : IL Z n0 h a bl d kB kD (3 : Int32) (8 : Int32) [(.int x0), (.int x1), (.int x2), (.int x3), (.int x4), (.int x5), (.int x6), (.int x7)]) : Con l Z (⟨"com/example/ratatoskr/ratatoskr/index/IntList", "set", "(II)V"⟩ : MethodName) prog_10_method_4_code 3 none ({ frames := 2, cells := 0, slots := 0, locals := 27 } : Room) #[(.ref a), (.int (1 : Int32)), (.int v)] h n0 (fun r h' => r = none ∧ Keep h h' [a, bl, d] ∧ IL Z n0 h' a bl d kB kD (3 : Int32) (8 : Int32) [(.int x0), (.int v), (.int x2), (.int x3), (.int x4), (.int x5), (.int x6), (.int x7)]) := by
  refine Con.mk (Ls := #[.val (.ref a), .val (.int (1 : Int32)), .val (.int v)]) (plainFor_of_name pn_0) (fun m => by first | (simp [entryFrame, mkF, argsToLocals, Value.category]; done) | rfl) (fun w C => ?_)
  replace C : Cx w l Z "com/example/ratatoskr/ratatoskr/index/IntList" prog_10_method_4_code 3 none "set" ({ frames := 2, cells := 0, slots := 0, locals := 27 } : Room) n0 := C
  obtain ⟨ga, gb, gd, nab, nad, nbd, Ov, E0, F1, F2, A1, A2⟩ := P
  refine g_iloadN C (pc' := 1) d4_0 rfl rfl ?_
  refine g_aloadN C (pc' := 2) d4_1 rfl rfl rfl ?_
  refine g_getF C (pc' := 5) (wd hw 21 rfl) Via.refl d4_2 rfl F2 rfl ?_
  refine g_callS C (pc' := 8) (k' := 0) (n' := 0) (argsL := [(.int (1 : Int32)), (.int (3 : Int32))]) (rest := []) (wd hw 28 rfl) (wd hw 29 rfl) (wd hw 30 rfl) (wd hw 31 rfl) (by decide) d4_5 pd_3 rfl rfl rfl (oc_1_3 l Z a0 hw n0 h O) (Nat.le_of_ble_eq_true rfl) (Nat.le_of_ble_eq_true rfl) (Nat.le_of_ble_eq_true rfl) (Nat.le_of_ble_eq_true rfl) rfl rfl rfl (fun v170 h169 q171 => ?_)
  obtain ⟨rfl, eh169⟩ := q171
  subst h169
  show G w _ h 0 0 8 #[.val (.ref a), .val (.int (1 : Int32)), .val (.int v)] [(.int (1 : Int32))]
  refine g_pop C (pc' := 9) d4_8 rfl rfl rfl ?_
  refine g_aloadN C (pc' := 10) d4_9 rfl rfl rfl ?_
  refine g_getF C (pc' := 13) (wd hw 14 rfl) Via.refl d4_10 rfl F1 rfl ?_
  refine g_iloadN C (pc' := 14) d4_13 rfl rfl ?_
  refine g_bipush C (pc' := 16) (v := (14 : Int32)) d4_14 (by decide) rfl ?_
  refine g_iushr C (pc' := 17) d4_16 rfl rfl ?_
  rw [show (((1 : Int32).toUInt32 >>> ((14 : Int32) &&& 31).toUInt32).toInt32) = (0 : Int32) from by decide]
  refine g_aaload C (pc' := 18) (x := (.ref d)) d4_17 rfl A1 rfl (by decide) (by decide) rfl rfl ?_
  refine g_iloadN C (pc' := 19) d4_18 rfl rfl ?_
  refine g_sipush C (pc' := 22) (v := (16383 : Int32)) d4_19 (by decide) rfl ?_
  refine g_iand C (pc' := 23) d4_22 rfl rfl ?_
  rw [show ((1 : Int32) &&& (16383 : Int32)) = (1 : Int32) from by decide]
  refine g_iloadN C (pc' := 24) d4_23 rfl rfl ?_
  refine g_iastore C (pc' := 25) d4_24 rfl A2 (by decide) (by decide) gd rfl (fun h172 W173 => ?_)
  have f174 := O.wr W173 gd
  have f175 := E0.wr W173
  have f176 := F1.other W173 (Or.inl nad)
  have f177 := F2.other W173 (Or.inl nad)
  have f178 := A1.other W173 nbd
  have f179 := (arv_put A2 rfl W173 (i := 1) rfl (Nat.le_of_ble_eq_true rfl) : Arv Z h172 d kD .int (8 : Int32) [(.int x0), (.int v), (.int x2), (.int x3), (.int x4), (.int x5), (.int x6), (.int x7)] (.int (0 : Int32)))
  have f180 := (Keep.refl h [a, bl, d]).wr W173 (Or.inl (List.mem_of_getElem? (i := 2) rfl))
  exact g_return C d4_25 rfl (Nat.le_of_ble_eq_true rfl) (Nat.le_of_ble_eq_true rfl) (⟨rfl, f180, ⟨ga, gb, gd, nab, nad, nbd, Ov, f175, f176, f177, f178, f179⟩⟩)
set_option maxRecDepth 65536 in
set_option maxHeartbeats 40000000 in
theorem pc_2_3 (l : Launch) (Z : State) (a0 : Array Value) (hw : ∀ d ∈ tables_1, d.before a0 Z = true) (n0 : Nat) (h : Heap) (O : Old Z n0 h)  : Con l Z (⟨"jdk/internal/util/Preconditions", "checkIndex", "(IILjava/util/function/BiFunction;)I"⟩ : MethodName) jdk_41_method_11_code 3 (some .int) ({ frames := 0, cells := 0, slots := 0, locals := 0 } : Room) #[(.int (2 : Int32)), (.int (3 : Int32)), .null] h n0 (fun r h' => r = some (.int (2 : Int32)) ∧ h' = h) := by
  refine Con.mk (Ls := #[.val (.int (2 : Int32)), .val (.int (3 : Int32)), .val .null]) (plainFor_of_name pn_4) (fun m => by first | (simp [entryFrame, mkF, argsToLocals, Value.category]; done) | rfl) (fun w C => ?_)
  replace C : Cx w l Z "jdk/internal/util/Preconditions" jdk_41_method_11_code 3 (some .int) "checkIndex" ({ frames := 0, cells := 0, slots := 0, locals := 0 } : Room) n0 := C
  refine g_iloadN C (pc' := 1) d6_0 rfl rfl ?_
  refine g_ifN C (pc' := 4) d6_1 rfl (by decide) rfl ?_
  refine g_iloadN C (pc' := 5) d6_4 rfl rfl ?_
  refine g_iloadN C (pc' := 6) d6_5 rfl rfl ?_
  refine g_icY C (pc' := 16) d6_6 rfl (by decide) (by decide) rfl ?_
  refine g_iloadN C (pc' := 17) d6_16 rfl rfl ?_
  exact g_ireturn C d6_17 rfl (Nat.le_of_ble_eq_true rfl) (Nat.le_of_ble_eq_true rfl) (⟨rfl, rfl⟩)
set_option maxRecDepth 65536 in
set_option maxHeartbeats 40000000 in
theorem oc_2_3 (l : Launch) (Z : State) (a0 : Array Value) (hw : ∀ d ∈ tables_1, d.before a0 Z = true) (n0 : Nat) (h : Heap) (O : Old Z n0 h)  : Con l Z (⟨"java/util/Objects", "checkIndex", "(II)I"⟩ : MethodName) jdk_31_method_17_code 2 (some .int) ({ frames := 1, cells := 0, slots := 0, locals := 14 } : Room) #[(.int (2 : Int32)), (.int (3 : Int32))] h n0 (fun r h' => r = some (.int (2 : Int32)) ∧ h' = h) := by
  refine Con.mk (Ls := #[.val (.int (2 : Int32)), .val (.int (3 : Int32))]) (plainFor_of_name pn_3) (fun m => by first | (simp [entryFrame, mkF, argsToLocals, Value.category]; done) | rfl) (fun w C => ?_)
  replace C : Cx w l Z "java/util/Objects" jdk_31_method_17_code 2 (some .int) "checkIndex" ({ frames := 1, cells := 0, slots := 0, locals := 14 } : Room) n0 := C
  refine g_iloadN C (pc' := 1) d5_0 rfl rfl ?_
  refine g_iloadN C (pc' := 2) d5_1 rfl rfl ?_
  refine g_aconstNull C (pc' := 3) d5_2 rfl ?_
  refine g_callS C (pc' := 6) (k' := 0) (n' := 0) (argsL := [(.int (2 : Int32)), (.int (3 : Int32)), .null]) (rest := []) (wd hw 32 rfl) (wd hw 33 rfl) (wd hw 34 rfl) (wd hw 35 rfl) (by decide) d5_3 pd_4 rfl rfl rfl (pc_2_3 l Z a0 hw n0 h O) (Nat.le_of_ble_eq_true rfl) (Nat.le_of_ble_eq_true rfl) (Nat.le_of_ble_eq_true rfl) (Nat.le_of_ble_eq_true rfl) rfl rfl rfl (fun v182 h181 q183 => ?_)
  obtain ⟨rfl, eh181⟩ := q183
  subst h181
  show G w _ h 0 0 6 #[.val (.int (2 : Int32)), .val (.int (3 : Int32))] [(.int (2 : Int32))]
  exact g_ireturn C d5_6 rfl (Nat.le_of_ble_eq_true rfl) (Nat.le_of_ble_eq_true rfl) (⟨rfl, rfl⟩)
set_option maxRecDepth 65536 in
set_option maxHeartbeats 40000000 in
theorem il_get3_2 (l : Launch) (Z : State) (a0 : Array Value) (hw : ∀ d ∈ tables_1, d.before a0 Z = true) (n0 : Nat) (h : Heap) (O : Old Z n0 h)  (a bl d : Addr) (kB kD : ClassId) (x0 x1 x2 x3 x4 x5 x6 x7 : Int32) (P : IL Z n0 h a bl d kB kD (3 : Int32) (8 : Int32) [(.int x0), (.int x1), (.int x2), (.int x3), (.int x4), (.int x5), (.int x6), (.int x7)]) : Con l Z (⟨"com/example/ratatoskr/ratatoskr/index/IntList", "get", "(I)I"⟩ : MethodName) prog_10_method_3_code 2 (some .int) ({ frames := 0, cells := 0, slots := 0, locals := 0 } : Room) #[(.ref a), (.int (2 : Int32))] h n0 (fun r h' => r = some (.int x2) ∧ h' = h) := by
  refine Con.mk (Ls := #[.val (.ref a), .val (.int (2 : Int32))]) (plainFor_of_name pn_0) (fun m => by first | (simp [entryFrame, mkF, argsToLocals, Value.category]; done) | rfl) (fun w C => ?_)
  replace C : Cx w l Z "com/example/ratatoskr/ratatoskr/index/IntList" prog_10_method_3_code 2 (some .int) "get" ({ frames := 0, cells := 0, slots := 0, locals := 0 } : Room) n0 := C
  obtain ⟨ga, gb, gd, nab, nad, nbd, Ov, E0, F1, F2, A1, A2⟩ := P
  refine g_aloadN C (pc' := 1) d8_0 rfl rfl rfl ?_
  refine g_getF C (pc' := 4) (wd hw 14 rfl) Via.refl d8_1 rfl F1 rfl ?_
  refine g_iloadN C (pc' := 5) d8_4 rfl rfl ?_
  refine g_bipush C (pc' := 7) (v := (14 : Int32)) d8_5 (by decide) rfl ?_
  refine g_iushr C (pc' := 8) d8_7 rfl rfl ?_
  rw [show (((2 : Int32).toUInt32 >>> ((14 : Int32) &&& 31).toUInt32).toInt32) = (0 : Int32) from by decide]
  refine g_aaload C (pc' := 9) (x := (.ref d)) d8_8 rfl A1 rfl (by decide) (by decide) rfl rfl ?_
  refine g_iloadN C (pc' := 10) d8_9 rfl rfl ?_
  refine g_sipush C (pc' := 13) (v := (16383 : Int32)) d8_10 (by decide) rfl ?_
  refine g_iand C (pc' := 14) d8_13 rfl rfl ?_
  rw [show ((2 : Int32) &&& (16383 : Int32)) = (2 : Int32) from by decide]
  refine g_iaload C (pc' := 15) (x := x2) d8_14 rfl A2 (by decide) (by decide) rfl rfl ?_
  exact g_ireturn C d8_15 rfl (Nat.le_of_ble_eq_true rfl) (Nat.le_of_ble_eq_true rfl) (⟨rfl, rfl⟩)
set_option maxRecDepth 65536 in
set_option maxHeartbeats 40000000 in
theorem il_set3_2 (l : Launch) (Z : State) (a0 : Array Value) (hw : ∀ d ∈ tables_1, d.before a0 Z = true) (n0 : Nat) (h : Heap) (O : Old Z n0 h)  (a bl d : Addr) (kB kD : ClassId) (x0 x1 x2 x3 x4 x5 x6 x7 : Int32) (v : Int32) (P : IL Z n0 h a bl d kB kD (3 : Int32) (8 : Int32) [(.int x0), (.int x1), (.int x2), (.int x3), (.int x4), (.int x5), (.int x6), (.int x7)]) : Con l Z (⟨"com/example/ratatoskr/ratatoskr/index/IntList", "set", "(II)V"⟩ : MethodName) prog_10_method_4_code 3 none ({ frames := 2, cells := 0, slots := 0, locals := 27 } : Room) #[(.ref a), (.int (2 : Int32)), (.int v)] h n0 (fun r h' => r = none ∧ Keep h h' [a, bl, d] ∧ IL Z n0 h' a bl d kB kD (3 : Int32) (8 : Int32) [(.int x0), (.int x1), (.int v), (.int x3), (.int x4), (.int x5), (.int x6), (.int x7)]) := by
  refine Con.mk (Ls := #[.val (.ref a), .val (.int (2 : Int32)), .val (.int v)]) (plainFor_of_name pn_0) (fun m => by first | (simp [entryFrame, mkF, argsToLocals, Value.category]; done) | rfl) (fun w C => ?_)
  replace C : Cx w l Z "com/example/ratatoskr/ratatoskr/index/IntList" prog_10_method_4_code 3 none "set" ({ frames := 2, cells := 0, slots := 0, locals := 27 } : Room) n0 := C
  obtain ⟨ga, gb, gd, nab, nad, nbd, Ov, E0, F1, F2, A1, A2⟩ := P
  refine g_iloadN C (pc' := 1) d4_0 rfl rfl ?_
  refine g_aloadN C (pc' := 2) d4_1 rfl rfl rfl ?_
  refine g_getF C (pc' := 5) (wd hw 21 rfl) Via.refl d4_2 rfl F2 rfl ?_
  refine g_callS C (pc' := 8) (k' := 0) (n' := 0) (argsL := [(.int (2 : Int32)), (.int (3 : Int32))]) (rest := []) (wd hw 28 rfl) (wd hw 29 rfl) (wd hw 30 rfl) (wd hw 31 rfl) (by decide) d4_5 pd_3 rfl rfl rfl (oc_2_3 l Z a0 hw n0 h O) (Nat.le_of_ble_eq_true rfl) (Nat.le_of_ble_eq_true rfl) (Nat.le_of_ble_eq_true rfl) (Nat.le_of_ble_eq_true rfl) rfl rfl rfl (fun v185 h184 q186 => ?_)
  obtain ⟨rfl, eh184⟩ := q186
  subst h184
  show G w _ h 0 0 8 #[.val (.ref a), .val (.int (2 : Int32)), .val (.int v)] [(.int (2 : Int32))]
  refine g_pop C (pc' := 9) d4_8 rfl rfl rfl ?_
  refine g_aloadN C (pc' := 10) d4_9 rfl rfl rfl ?_
  refine g_getF C (pc' := 13) (wd hw 14 rfl) Via.refl d4_10 rfl F1 rfl ?_
  refine g_iloadN C (pc' := 14) d4_13 rfl rfl ?_
  refine g_bipush C (pc' := 16) (v := (14 : Int32)) d4_14 (by decide) rfl ?_
  refine g_iushr C (pc' := 17) d4_16 rfl rfl ?_
  rw [show (((2 : Int32).toUInt32 >>> ((14 : Int32) &&& 31).toUInt32).toInt32) = (0 : Int32) from by decide]
  refine g_aaload C (pc' := 18) (x := (.ref d)) d4_17 rfl A1 rfl (by decide) (by decide) rfl rfl ?_
  refine g_iloadN C (pc' := 19) d4_18 rfl rfl ?_
  refine g_sipush C (pc' := 22) (v := (16383 : Int32)) d4_19 (by decide) rfl ?_
  refine g_iand C (pc' := 23) d4_22 rfl rfl ?_
  rw [show ((2 : Int32) &&& (16383 : Int32)) = (2 : Int32) from by decide]
  refine g_iloadN C (pc' := 24) d4_23 rfl rfl ?_
  refine g_iastore C (pc' := 25) d4_24 rfl A2 (by decide) (by decide) gd rfl (fun h187 W188 => ?_)
  have f189 := O.wr W188 gd
  have f190 := E0.wr W188
  have f191 := F1.other W188 (Or.inl nad)
  have f192 := F2.other W188 (Or.inl nad)
  have f193 := A1.other W188 nbd
  have f194 := (arv_put A2 rfl W188 (i := 2) rfl (Nat.le_of_ble_eq_true rfl) : Arv Z h187 d kD .int (8 : Int32) [(.int x0), (.int x1), (.int v), (.int x3), (.int x4), (.int x5), (.int x6), (.int x7)] (.int (0 : Int32)))
  have f195 := (Keep.refl h [a, bl, d]).wr W188 (Or.inl (List.mem_of_getElem? (i := 2) rfl))
  exact g_return C d4_25 rfl (Nat.le_of_ble_eq_true rfl) (Nat.le_of_ble_eq_true rfl) (⟨rfl, f195, ⟨ga, gb, gd, nab, nad, nbd, Ov, f190, f191, f192, f193, f194⟩⟩)
def LQ : Option Value → Heap → Prop := fun v _ => v = some (.int (1 : Int32))
theorem pd_0 : parseMethodDescriptor "()V" = some ⟨[], none⟩ := by decide +kernel
theorem pd_1 : parseMethodDescriptor "(I)V" = some ⟨[.int], none⟩ := by decide +kernel
theorem pd_2 : parseMethodDescriptor "(II)V" = some ⟨[.int, .int], none⟩ := by decide +kernel
theorem pd_5 : parseMethodDescriptor "()I" = some ⟨[], some .int⟩ := by decide +kernel
theorem pd_6 : parseMethodDescriptor "(I)I" = some ⟨[.int], some .int⟩ := by decide +kernel
theorem pn_1 : plainName "com/example/ratatoskr/ratatoskr/index/IntListSetPinLaw" = true := by first | (simp [plainName, overriddenIn]; done) | decide +kernel
set_option maxRecDepth 65536 in
set_option maxHeartbeats 40000000 in
theorem rm0 (l : Launch) (Z : State) (a0 : Array Value) (hw : ∀ d ∈ tables_1, d.before a0 Z = true) (n0 : Nat) (h : Heap) (O : Old Z n0 h)  (p0 : Int32) (p1 : Int32) (p2 : Int32) (p3 : Int32) (p4 : Int32) (p5 : Int32) : Con l Z x code maxLocals ret room_1 #[(.int p0), (.int p1), (.int p2), (.int p3), (.int p4), (.int p5)] h n0 (LQ) := by
  refine Con.mk (Ls := #[.val (.int p0), .val (.int p1), .val (.int p2), .val (.int p3), .val (.int p4), .val (.int p5), .unset, .unset, .unset, .unset, .unset]) (plainFor_of_name pn_1) (fun m => by first | (simp [entryFrame, mkF, argsToLocals, Value.category, maxLocals]; done) | rfl) (fun w C => ?_)
  replace C : Cx w l Z "com/example/ratatoskr/ratatoskr/index/IntListSetPinLaw" code 11 (some .boolean) "law" room_1 n0 := C
  refine g_iloadN C (pc' := 1) at_0 rfl rfl ?_
  refine g_ldcInt C (pc' := 3) (wd hw 0 rfl) at_1 rfl ?_
  refine g_iand C (pc' := 4) at_3 rfl rfl ?_
  refine g_iconst C (pc' := 5) (v := (3 : Int32)) at_4 (by decide) rfl ?_
  refine g_irem C (pc' := 6) at_5 rfl (by decide) rfl ?_
  rcases own_mod3 p3 with e3 | e3 | e3
  · rw [e3]
    refine g_iconst C (pc' := 7) (v := (1 : Int32)) at_6 (by decide) rfl ?_
    refine g_iadd C (pc' := 8) at_7 rfl rfl ?_
    rw [show ((0 : Int32) + (1 : Int32)) = (1 : Int32) from by decide]
    refine g_istore C (pc' := 10) (Ls' := #[.val (.int p0), .val (.int p1), .val (.int p2), .val (.int p3), .val (.int p4), .val (.int p5), .val (.int (1 : Int32)), .unset, .unset, .unset, .unset]) at_8 rfl rfl rfl ?_
    refine g_iload C (pc' := 12) at_10 rfl rfl ?_
    refine g_ldcInt C (pc' := 14) (wd hw 0 rfl) at_12 rfl ?_
    refine g_iand C (pc' := 15) at_14 rfl rfl ?_
    refine g_iload C (pc' := 17) at_15 rfl rfl ?_
    refine g_irem C (pc' := 18) at_17 rfl (by decide) rfl ?_
    have ei := own_mod1 p4
    rw [ei]
    refine g_istore C (pc' := 20) (Ls' := #[.val (.int p0), .val (.int p1), .val (.int p2), .val (.int p3), .val (.int p4), .val (.int p5), .val (.int (1 : Int32)), .val (.int (0 : Int32)), .unset, .unset, .unset]) at_18 rfl rfl rfl ?_
    refine g_new C (pc' := 23) (k' := 1) (n' := 2) (wd hw 1 rfl) (wd hw 2 rfl) (wd hw 3 rfl) at_20 (by decide) (by decide) rfl rfl rfl (fun h196 b197 ex198 E199 A200 D201 => ?_)
    have ge_b197 : n0 ≤ b197 := by rw [ex198]; exact O.1 ▸ O.2.1
    have f202 := O.ext E199
    have F_blocks_b197 : Fld Z h196 b197 "com/example/ratatoskr/ratatoskr/index/IntList" "blocks" "[[I" .null := D201 (Or.inl (wd hw 15 rfl)) (ty := (.array (.array .int))) (by decide)
    have F_size_b197 : Fld Z h196 b197 "com/example/ratatoskr/ratatoskr/index/IntList" "size" "I" (.int (0 : Int32)) := D201 (Or.inl (wd hw 22 rfl)) (ty := .int) (by decide)
    refine g_dup C (pc' := 24) at_23 rfl rfl rfl ?_
    refine g_special C (pc' := 27) (k' := 3) (n' := 11) (argsL := []) (rest := [(.ref b197)]) (wd hw 4 rfl) (wd hw 5 rfl) (wd hw 3 rfl) (wd hw 6 rfl) (by decide) rfl at_24 pd_0 rfl rfl rfl (il_init l Z a0 hw n0 h196 f202  b197 ge_b197 A200 F_blocks_b197 F_size_b197) (Nat.le_of_ble_eq_true rfl) (Nat.le_of_ble_eq_true rfl) (Nat.le_of_ble_eq_true rfl) (Nat.le_of_ble_eq_true rfl) rfl rfl rfl (fun v206 h205 q207 => ?_)
    obtain ⟨rfl, K203, bl, d, kB, kD, hbl, hd, P204⟩ := q207
    have ne_b197_bl : b197 ≠ bl := Nat.ne_of_lt (Nat.lt_of_lt_of_le A200.lt hbl)
    have ge_bl : n0 ≤ bl := Nat.le_trans (f202.1 ▸ f202.2.1) hbl
    have ne_b197_d : b197 ≠ d := Nat.ne_of_lt (Nat.lt_of_lt_of_le A200.lt hd)
    have ge_d : n0 ≤ d := Nat.le_trans (f202.1 ▸ f202.2.1) hd
    have f208 := f202.keep K203 (allS ge_b197 all0)
    have f209 := A200.keep K203
    show G w _ h205 3 11 27 #[.val (.int p0), .val (.int p1), .val (.int p2), .val (.int p3), .val (.int p4), .val (.int p5), .val (.int (1 : Int32)), .val (.int (0 : Int32)), .unset, .unset, .unset] [(.ref b197)]
    refine g_astore C (pc' := 29) (Ls' := #[.val (.int p0), .val (.int p1), .val (.int p2), .val (.int p3), .val (.int p4), .val (.int p5), .val (.int (1 : Int32)), .val (.int (0 : Int32)), .val (.ref b197), .unset, .unset]) at_27 rfl rfl rfl rfl ?_
    refine g_aload C (pc' := 31) at_29 rfl rfl rfl ?_
    refine g_iloadN C (pc' := 32) at_31 rfl rfl ?_
    refine g_virtual C (pc' := 35) (k' := 3) (n' := 11) (argsL := [(.int p0)]) (rest := []) (wd hw 16 rfl) (wd hw 17 rfl) (nfSel (wd hw 19 rfl)) (wd hw 19 rfl) (wd hw 18 rfl) (wd hw 3 rfl) (wd hw 20 rfl) (by decide) at_32 pd_1 rfl rfl rfl f209 (il_add0 l Z a0 hw n0 h205 f208  b197 bl d kB kD (0 : Int32) (0 : Int32) (0 : Int32) (0 : Int32) (0 : Int32) (0 : Int32) (0 : Int32) (0 : Int32) p0 P204) (Nat.le_of_ble_eq_true rfl) (Nat.le_of_ble_eq_true rfl) (Nat.le_of_ble_eq_true rfl) (Nat.le_of_ble_eq_true rfl) rfl rfl rfl (fun v213 h212 q214 => ?_)
    obtain ⟨rfl, K210, P211⟩ := q214
    have f215 := f208.keep K210 (allS ge_b197 (allS ge_bl (allS ge_d all0)))
    have f216 := f209.keep K210
    show G w _ h212 3 11 35 #[.val (.int p0), .val (.int p1), .val (.int p2), .val (.int p3), .val (.int p4), .val (.int p5), .val (.int (1 : Int32)), .val (.int (0 : Int32)), .val (.ref b197), .unset, .unset] []
    refine g_iload C (pc' := 37) at_35 rfl rfl ?_
    refine g_iconst C (pc' := 38) (v := (2 : Int32)) at_37 (by decide) rfl ?_
    refine g_icY C (pc' := 47) at_38 rfl (by decide) (by decide) rfl ?_
    refine g_iload C (pc' := 49) at_47 rfl rfl ?_
    refine g_iconst C (pc' := 50) (v := (3 : Int32)) at_49 (by decide) rfl ?_
    refine g_icY C (pc' := 59) at_50 rfl (by decide) (by decide) rfl ?_
    refine g_aload C (pc' := 61) at_59 rfl rfl rfl ?_
    refine g_iload C (pc' := 63) at_61 rfl rfl ?_
    refine g_iload C (pc' := 65) at_63 rfl rfl ?_
    refine g_virtual C (pc' := 68) (k' := 3) (n' := 11) (argsL := [(.int (0 : Int32)), (.int p5)]) (rest := []) (wd hw 23 rfl) (wd hw 24 rfl) (nfSel (wd hw 26 rfl)) (wd hw 26 rfl) (wd hw 25 rfl) (wd hw 3 rfl) (wd hw 27 rfl) (by decide) at_65 pd_2 rfl rfl rfl f216 (il_set1_0 l Z a0 hw n0 h212 f215  b197 bl d kB kD p0 (0 : Int32) (0 : Int32) (0 : Int32) (0 : Int32) (0 : Int32) (0 : Int32) (0 : Int32) p5 P211) (Nat.le_of_ble_eq_true rfl) (Nat.le_of_ble_eq_true rfl) (Nat.le_of_ble_eq_true rfl) (Nat.le_of_ble_eq_true rfl) rfl rfl rfl (fun v220 h219 q221 => ?_)
    obtain ⟨rfl, K217, P218⟩ := q221
    have f222 := f215.keep K217 (allS ge_b197 (allS ge_bl (allS ge_d all0)))
    have f223 := f216.keep K217
    show G w _ h219 3 11 68 #[.val (.int p0), .val (.int p1), .val (.int p2), .val (.int p3), .val (.int p4), .val (.int p5), .val (.int (1 : Int32)), .val (.int (0 : Int32)), .val (.ref b197), .unset, .unset] []
    refine g_aload C (pc' := 70) at_68 rfl rfl rfl ?_
    refine g_virtual C (pc' := 73) (k' := 3) (n' := 11) (argsL := []) (rest := []) (wd hw 36 rfl) (wd hw 37 rfl) (nfSel (wd hw 39 rfl)) (wd hw 39 rfl) (wd hw 38 rfl) (wd hw 3 rfl) (wd hw 40 rfl) (by decide) at_70 pd_5 rfl rfl rfl f223 (il_size1 l Z a0 hw n0 h219 f222  b197 bl d kB kD p5 (0 : Int32) (0 : Int32) (0 : Int32) (0 : Int32) (0 : Int32) (0 : Int32) (0 : Int32) P218) (Nat.le_of_ble_eq_true rfl) (Nat.le_of_ble_eq_true rfl) (Nat.le_of_ble_eq_true rfl) (Nat.le_of_ble_eq_true rfl) rfl rfl rfl (fun v225 h224 q226 => ?_)
    obtain ⟨rfl, eh224⟩ := q226
    subst h224
    show G w _ h219 3 11 73 #[.val (.int p0), .val (.int p1), .val (.int p2), .val (.int p3), .val (.int p4), .val (.int p5), .val (.int (1 : Int32)), .val (.int (0 : Int32)), .val (.ref b197), .unset, .unset] [(.int (1 : Int32))]
    refine g_iload C (pc' := 75) at_73 rfl rfl ?_
    refine g_icY C (pc' := 80) at_75 rfl (by decide) (by decide) rfl ?_
    refine g_iload C (pc' := 82) at_80 rfl rfl ?_
    refine g_ifN C (pc' := 85) at_82 rfl (by decide) rfl ?_
    refine g_iload C (pc' := 87) at_85 rfl rfl ?_
    refine g_goto C (pc' := 91) at_87 (by decide) rfl ?_
    refine g_istore C (pc' := 93) (Ls' := #[.val (.int p0), .val (.int p1), .val (.int p2), .val (.int p3), .val (.int p4), .val (.int p5), .val (.int (1 : Int32)), .val (.int (0 : Int32)), .val (.ref b197), .val (.int p5), .unset]) at_91 rfl rfl rfl ?_
    refine g_aload C (pc' := 95) at_93 rfl rfl rfl ?_
    refine g_iconst C (pc' := 96) (v := (0 : Int32)) at_95 (by decide) rfl ?_
    refine g_virtual C (pc' := 99) (k' := 3) (n' := 11) (argsL := [(.int (0 : Int32))]) (rest := []) (wd hw 41 rfl) (wd hw 42 rfl) (nfSel (wd hw 44 rfl)) (wd hw 44 rfl) (wd hw 43 rfl) (wd hw 3 rfl) (wd hw 45 rfl) (by decide) at_96 pd_6 rfl rfl rfl f223 (il_get1_0 l Z a0 hw n0 h219 f222  b197 bl d kB kD p5 (0 : Int32) (0 : Int32) (0 : Int32) (0 : Int32) (0 : Int32) (0 : Int32) (0 : Int32) P218) (Nat.le_of_ble_eq_true rfl) (Nat.le_of_ble_eq_true rfl) (Nat.le_of_ble_eq_true rfl) (Nat.le_of_ble_eq_true rfl) rfl rfl rfl (fun v228 h227 q229 => ?_)
    obtain ⟨rfl, eh227⟩ := q229
    subst h227
    show G w _ h219 3 11 99 #[.val (.int p0), .val (.int p1), .val (.int p2), .val (.int p3), .val (.int p4), .val (.int p5), .val (.int (1 : Int32)), .val (.int (0 : Int32)), .val (.ref b197), .val (.int p5), .unset] [(.int p5)]
    refine g_iload C (pc' := 101) at_99 rfl rfl ?_
    refine g_icY C (pc' := 106) at_101 rfl (says_t (cd := .eq) (rfl)) (by decide) rfl ?_
    refine g_iload C (pc' := 108) at_106 rfl rfl ?_
    refine g_iconst C (pc' := 109) (v := (2 : Int32)) at_108 (by decide) rfl ?_
    refine g_icY C (pc' := 139) at_109 rfl (by decide) (by decide) rfl ?_
    refine g_iload C (pc' := 141) at_139 rfl rfl ?_
    refine g_iconst C (pc' := 142) (v := (3 : Int32)) at_141 (by decide) rfl ?_
    refine g_icY C (pc' := 172) at_142 rfl (by decide) (by decide) rfl ?_
    refine g_iconst C (pc' := 173) (v := (1 : Int32)) at_172 (by decide) rfl ?_
    exact g_zreturn C at_173 rfl rfl (Nat.le_of_ble_eq_true rfl) (Nat.le_of_ble_eq_true rfl) (rfl)
  · rw [e3]
    refine g_iconst C (pc' := 7) (v := (1 : Int32)) at_6 (by decide) rfl ?_
    refine g_iadd C (pc' := 8) at_7 rfl rfl ?_
    rw [show ((1 : Int32) + (1 : Int32)) = (2 : Int32) from by decide]
    refine g_istore C (pc' := 10) (Ls' := #[.val (.int p0), .val (.int p1), .val (.int p2), .val (.int p3), .val (.int p4), .val (.int p5), .val (.int (2 : Int32)), .unset, .unset, .unset, .unset]) at_8 rfl rfl rfl ?_
    refine g_iload C (pc' := 12) at_10 rfl rfl ?_
    refine g_ldcInt C (pc' := 14) (wd hw 0 rfl) at_12 rfl ?_
    refine g_iand C (pc' := 15) at_14 rfl rfl ?_
    refine g_iload C (pc' := 17) at_15 rfl rfl ?_
    refine g_irem C (pc' := 18) at_17 rfl (by decide) rfl ?_
    rcases own_mod2 p4 with ei | ei
    · rw [ei]
      refine g_istore C (pc' := 20) (Ls' := #[.val (.int p0), .val (.int p1), .val (.int p2), .val (.int p3), .val (.int p4), .val (.int p5), .val (.int (2 : Int32)), .val (.int (0 : Int32)), .unset, .unset, .unset]) at_18 rfl rfl rfl ?_
      refine g_new C (pc' := 23) (k' := 1) (n' := 2) (wd hw 1 rfl) (wd hw 2 rfl) (wd hw 3 rfl) at_20 (by decide) (by decide) rfl rfl rfl (fun h230 b231 ex232 E233 A234 D235 => ?_)
      have ge_b231 : n0 ≤ b231 := by rw [ex232]; exact O.1 ▸ O.2.1
      have f236 := O.ext E233
      have F_blocks_b231 : Fld Z h230 b231 "com/example/ratatoskr/ratatoskr/index/IntList" "blocks" "[[I" .null := D235 (Or.inl (wd hw 15 rfl)) (ty := (.array (.array .int))) (by decide)
      have F_size_b231 : Fld Z h230 b231 "com/example/ratatoskr/ratatoskr/index/IntList" "size" "I" (.int (0 : Int32)) := D235 (Or.inl (wd hw 22 rfl)) (ty := .int) (by decide)
      refine g_dup C (pc' := 24) at_23 rfl rfl rfl ?_
      refine g_special C (pc' := 27) (k' := 3) (n' := 11) (argsL := []) (rest := [(.ref b231)]) (wd hw 4 rfl) (wd hw 5 rfl) (wd hw 3 rfl) (wd hw 6 rfl) (by decide) rfl at_24 pd_0 rfl rfl rfl (il_init l Z a0 hw n0 h230 f236  b231 ge_b231 A234 F_blocks_b231 F_size_b231) (Nat.le_of_ble_eq_true rfl) (Nat.le_of_ble_eq_true rfl) (Nat.le_of_ble_eq_true rfl) (Nat.le_of_ble_eq_true rfl) rfl rfl rfl (fun v240 h239 q241 => ?_)
      obtain ⟨rfl, K237, bl, d, kB, kD, hbl, hd, P238⟩ := q241
      have ne_b231_bl : b231 ≠ bl := Nat.ne_of_lt (Nat.lt_of_lt_of_le A234.lt hbl)
      have ge_bl : n0 ≤ bl := Nat.le_trans (f236.1 ▸ f236.2.1) hbl
      have ne_b231_d : b231 ≠ d := Nat.ne_of_lt (Nat.lt_of_lt_of_le A234.lt hd)
      have ge_d : n0 ≤ d := Nat.le_trans (f236.1 ▸ f236.2.1) hd
      have f242 := f236.keep K237 (allS ge_b231 all0)
      have f243 := A234.keep K237
      show G w _ h239 3 11 27 #[.val (.int p0), .val (.int p1), .val (.int p2), .val (.int p3), .val (.int p4), .val (.int p5), .val (.int (2 : Int32)), .val (.int (0 : Int32)), .unset, .unset, .unset] [(.ref b231)]
      refine g_astore C (pc' := 29) (Ls' := #[.val (.int p0), .val (.int p1), .val (.int p2), .val (.int p3), .val (.int p4), .val (.int p5), .val (.int (2 : Int32)), .val (.int (0 : Int32)), .val (.ref b231), .unset, .unset]) at_27 rfl rfl rfl rfl ?_
      refine g_aload C (pc' := 31) at_29 rfl rfl rfl ?_
      refine g_iloadN C (pc' := 32) at_31 rfl rfl ?_
      refine g_virtual C (pc' := 35) (k' := 3) (n' := 11) (argsL := [(.int p0)]) (rest := []) (wd hw 16 rfl) (wd hw 17 rfl) (nfSel (wd hw 19 rfl)) (wd hw 19 rfl) (wd hw 18 rfl) (wd hw 3 rfl) (wd hw 20 rfl) (by decide) at_32 pd_1 rfl rfl rfl f243 (il_add0 l Z a0 hw n0 h239 f242  b231 bl d kB kD (0 : Int32) (0 : Int32) (0 : Int32) (0 : Int32) (0 : Int32) (0 : Int32) (0 : Int32) (0 : Int32) p0 P238) (Nat.le_of_ble_eq_true rfl) (Nat.le_of_ble_eq_true rfl) (Nat.le_of_ble_eq_true rfl) (Nat.le_of_ble_eq_true rfl) rfl rfl rfl (fun v247 h246 q248 => ?_)
      obtain ⟨rfl, K244, P245⟩ := q248
      have f249 := f242.keep K244 (allS ge_b231 (allS ge_bl (allS ge_d all0)))
      have f250 := f243.keep K244
      show G w _ h246 3 11 35 #[.val (.int p0), .val (.int p1), .val (.int p2), .val (.int p3), .val (.int p4), .val (.int p5), .val (.int (2 : Int32)), .val (.int (0 : Int32)), .val (.ref b231), .unset, .unset] []
      refine g_iload C (pc' := 37) at_35 rfl rfl ?_
      refine g_iconst C (pc' := 38) (v := (2 : Int32)) at_37 (by decide) rfl ?_
      refine g_icN C (pc' := 41) at_38 rfl (by decide) rfl ?_
      refine g_aload C (pc' := 43) at_41 rfl rfl rfl ?_
      refine g_iloadN C (pc' := 44) at_43 rfl rfl ?_
      refine g_virtual C (pc' := 47) (k' := 3) (n' := 11) (argsL := [(.int p1)]) (rest := []) (wd hw 16 rfl) (wd hw 17 rfl) (nfSel (wd hw 19 rfl)) (wd hw 19 rfl) (wd hw 18 rfl) (wd hw 3 rfl) (wd hw 20 rfl) (by decide) at_44 pd_1 rfl rfl rfl f250 (il_add1 l Z a0 hw n0 h246 f249  b231 bl d kB kD p0 (0 : Int32) (0 : Int32) (0 : Int32) (0 : Int32) (0 : Int32) (0 : Int32) (0 : Int32) p1 P245) (Nat.le_of_ble_eq_true rfl) (Nat.le_of_ble_eq_true rfl) (Nat.le_of_ble_eq_true rfl) (Nat.le_of_ble_eq_true rfl) rfl rfl rfl (fun v254 h253 q255 => ?_)
      obtain ⟨rfl, K251, P252⟩ := q255
      have f256 := f249.keep K251 (allS ge_b231 (allS ge_bl (allS ge_d all0)))
      have f257 := f250.keep K251
      show G w _ h253 3 11 47 #[.val (.int p0), .val (.int p1), .val (.int p2), .val (.int p3), .val (.int p4), .val (.int p5), .val (.int (2 : Int32)), .val (.int (0 : Int32)), .val (.ref b231), .unset, .unset] []
      refine g_iload C (pc' := 49) at_47 rfl rfl ?_
      refine g_iconst C (pc' := 50) (v := (3 : Int32)) at_49 (by decide) rfl ?_
      refine g_icY C (pc' := 59) at_50 rfl (by decide) (by decide) rfl ?_
      refine g_aload C (pc' := 61) at_59 rfl rfl rfl ?_
      refine g_iload C (pc' := 63) at_61 rfl rfl ?_
      refine g_iload C (pc' := 65) at_63 rfl rfl ?_
      refine g_virtual C (pc' := 68) (k' := 3) (n' := 11) (argsL := [(.int (0 : Int32)), (.int p5)]) (rest := []) (wd hw 23 rfl) (wd hw 24 rfl) (nfSel (wd hw 26 rfl)) (wd hw 26 rfl) (wd hw 25 rfl) (wd hw 3 rfl) (wd hw 27 rfl) (by decide) at_65 pd_2 rfl rfl rfl f257 (il_set2_0 l Z a0 hw n0 h253 f256  b231 bl d kB kD p0 p1 (0 : Int32) (0 : Int32) (0 : Int32) (0 : Int32) (0 : Int32) (0 : Int32) p5 P252) (Nat.le_of_ble_eq_true rfl) (Nat.le_of_ble_eq_true rfl) (Nat.le_of_ble_eq_true rfl) (Nat.le_of_ble_eq_true rfl) rfl rfl rfl (fun v261 h260 q262 => ?_)
      obtain ⟨rfl, K258, P259⟩ := q262
      have f263 := f256.keep K258 (allS ge_b231 (allS ge_bl (allS ge_d all0)))
      have f264 := f257.keep K258
      show G w _ h260 3 11 68 #[.val (.int p0), .val (.int p1), .val (.int p2), .val (.int p3), .val (.int p4), .val (.int p5), .val (.int (2 : Int32)), .val (.int (0 : Int32)), .val (.ref b231), .unset, .unset] []
      refine g_aload C (pc' := 70) at_68 rfl rfl rfl ?_
      refine g_virtual C (pc' := 73) (k' := 3) (n' := 11) (argsL := []) (rest := []) (wd hw 36 rfl) (wd hw 37 rfl) (nfSel (wd hw 39 rfl)) (wd hw 39 rfl) (wd hw 38 rfl) (wd hw 3 rfl) (wd hw 40 rfl) (by decide) at_70 pd_5 rfl rfl rfl f264 (il_size2 l Z a0 hw n0 h260 f263  b231 bl d kB kD p5 p1 (0 : Int32) (0 : Int32) (0 : Int32) (0 : Int32) (0 : Int32) (0 : Int32) P259) (Nat.le_of_ble_eq_true rfl) (Nat.le_of_ble_eq_true rfl) (Nat.le_of_ble_eq_true rfl) (Nat.le_of_ble_eq_true rfl) rfl rfl rfl (fun v266 h265 q267 => ?_)
      obtain ⟨rfl, eh265⟩ := q267
      subst h265
      show G w _ h260 3 11 73 #[.val (.int p0), .val (.int p1), .val (.int p2), .val (.int p3), .val (.int p4), .val (.int p5), .val (.int (2 : Int32)), .val (.int (0 : Int32)), .val (.ref b231), .unset, .unset] [(.int (2 : Int32))]
      refine g_iload C (pc' := 75) at_73 rfl rfl ?_
      refine g_icY C (pc' := 80) at_75 rfl (by decide) (by decide) rfl ?_
      refine g_iload C (pc' := 82) at_80 rfl rfl ?_
      refine g_ifN C (pc' := 85) at_82 rfl (by decide) rfl ?_
      refine g_iload C (pc' := 87) at_85 rfl rfl ?_
      refine g_goto C (pc' := 91) at_87 (by decide) rfl ?_
      refine g_istore C (pc' := 93) (Ls' := #[.val (.int p0), .val (.int p1), .val (.int p2), .val (.int p3), .val (.int p4), .val (.int p5), .val (.int (2 : Int32)), .val (.int (0 : Int32)), .val (.ref b231), .val (.int p5), .unset]) at_91 rfl rfl rfl ?_
      refine g_aload C (pc' := 95) at_93 rfl rfl rfl ?_
      refine g_iconst C (pc' := 96) (v := (0 : Int32)) at_95 (by decide) rfl ?_
      refine g_virtual C (pc' := 99) (k' := 3) (n' := 11) (argsL := [(.int (0 : Int32))]) (rest := []) (wd hw 41 rfl) (wd hw 42 rfl) (nfSel (wd hw 44 rfl)) (wd hw 44 rfl) (wd hw 43 rfl) (wd hw 3 rfl) (wd hw 45 rfl) (by decide) at_96 pd_6 rfl rfl rfl f264 (il_get2_0 l Z a0 hw n0 h260 f263  b231 bl d kB kD p5 p1 (0 : Int32) (0 : Int32) (0 : Int32) (0 : Int32) (0 : Int32) (0 : Int32) P259) (Nat.le_of_ble_eq_true rfl) (Nat.le_of_ble_eq_true rfl) (Nat.le_of_ble_eq_true rfl) (Nat.le_of_ble_eq_true rfl) rfl rfl rfl (fun v269 h268 q270 => ?_)
      obtain ⟨rfl, eh268⟩ := q270
      subst h268
      show G w _ h260 3 11 99 #[.val (.int p0), .val (.int p1), .val (.int p2), .val (.int p3), .val (.int p4), .val (.int p5), .val (.int (2 : Int32)), .val (.int (0 : Int32)), .val (.ref b231), .val (.int p5), .unset] [(.int p5)]
      refine g_iload C (pc' := 101) at_99 rfl rfl ?_
      refine g_icY C (pc' := 106) at_101 rfl (says_t (cd := .eq) (rfl)) (by decide) rfl ?_
      refine g_iload C (pc' := 108) at_106 rfl rfl ?_
      refine g_iconst C (pc' := 109) (v := (2 : Int32)) at_108 (by decide) rfl ?_
      refine g_icN C (pc' := 112) at_109 rfl (by decide) rfl ?_
      refine g_iload C (pc' := 114) at_112 rfl rfl ?_
      refine g_iconst C (pc' := 115) (v := (1 : Int32)) at_114 (by decide) rfl ?_
      refine g_icY C (pc' := 123) at_115 rfl (by decide) (by decide) rfl ?_
      refine g_iloadN C (pc' := 124) at_123 rfl rfl ?_
      refine g_istore C (pc' := 126) (Ls' := #[.val (.int p0), .val (.int p1), .val (.int p2), .val (.int p3), .val (.int p4), .val (.int p5), .val (.int (2 : Int32)), .val (.int (0 : Int32)), .val (.ref b231), .val (.int p5), .val (.int p1)]) at_124 rfl rfl rfl ?_
      refine g_aload C (pc' := 128) at_126 rfl rfl rfl ?_
      refine g_iconst C (pc' := 129) (v := (1 : Int32)) at_128 (by decide) rfl ?_
      refine g_virtual C (pc' := 132) (k' := 3) (n' := 11) (argsL := [(.int (1 : Int32))]) (rest := []) (wd hw 41 rfl) (wd hw 42 rfl) (nfSel (wd hw 44 rfl)) (wd hw 44 rfl) (wd hw 43 rfl) (wd hw 3 rfl) (wd hw 45 rfl) (by decide) at_129 pd_6 rfl rfl rfl f264 (il_get2_1 l Z a0 hw n0 h260 f263  b231 bl d kB kD p5 p1 (0 : Int32) (0 : Int32) (0 : Int32) (0 : Int32) (0 : Int32) (0 : Int32) P259) (Nat.le_of_ble_eq_true rfl) (Nat.le_of_ble_eq_true rfl) (Nat.le_of_ble_eq_true rfl) (Nat.le_of_ble_eq_true rfl) rfl rfl rfl (fun v272 h271 q273 => ?_)
      obtain ⟨rfl, eh271⟩ := q273
      subst h271
      show G w _ h260 3 11 132 #[.val (.int p0), .val (.int p1), .val (.int p2), .val (.int p3), .val (.int p4), .val (.int p5), .val (.int (2 : Int32)), .val (.int (0 : Int32)), .val (.ref b231), .val (.int p5), .val (.int p1)] [(.int p1)]
      refine g_iload C (pc' := 134) at_132 rfl rfl ?_
      refine g_icY C (pc' := 139) at_134 rfl (says_t (cd := .eq) (rfl)) (by decide) rfl ?_
      refine g_iload C (pc' := 141) at_139 rfl rfl ?_
      refine g_iconst C (pc' := 142) (v := (3 : Int32)) at_141 (by decide) rfl ?_
      refine g_icY C (pc' := 172) at_142 rfl (by decide) (by decide) rfl ?_
      refine g_iconst C (pc' := 173) (v := (1 : Int32)) at_172 (by decide) rfl ?_
      exact g_zreturn C at_173 rfl rfl (Nat.le_of_ble_eq_true rfl) (Nat.le_of_ble_eq_true rfl) (rfl)
    · rw [ei]
      refine g_istore C (pc' := 20) (Ls' := #[.val (.int p0), .val (.int p1), .val (.int p2), .val (.int p3), .val (.int p4), .val (.int p5), .val (.int (2 : Int32)), .val (.int (1 : Int32)), .unset, .unset, .unset]) at_18 rfl rfl rfl ?_
      refine g_new C (pc' := 23) (k' := 1) (n' := 2) (wd hw 1 rfl) (wd hw 2 rfl) (wd hw 3 rfl) at_20 (by decide) (by decide) rfl rfl rfl (fun h274 b275 ex276 E277 A278 D279 => ?_)
      have ge_b275 : n0 ≤ b275 := by rw [ex276]; exact O.1 ▸ O.2.1
      have f280 := O.ext E277
      have F_blocks_b275 : Fld Z h274 b275 "com/example/ratatoskr/ratatoskr/index/IntList" "blocks" "[[I" .null := D279 (Or.inl (wd hw 15 rfl)) (ty := (.array (.array .int))) (by decide)
      have F_size_b275 : Fld Z h274 b275 "com/example/ratatoskr/ratatoskr/index/IntList" "size" "I" (.int (0 : Int32)) := D279 (Or.inl (wd hw 22 rfl)) (ty := .int) (by decide)
      refine g_dup C (pc' := 24) at_23 rfl rfl rfl ?_
      refine g_special C (pc' := 27) (k' := 3) (n' := 11) (argsL := []) (rest := [(.ref b275)]) (wd hw 4 rfl) (wd hw 5 rfl) (wd hw 3 rfl) (wd hw 6 rfl) (by decide) rfl at_24 pd_0 rfl rfl rfl (il_init l Z a0 hw n0 h274 f280  b275 ge_b275 A278 F_blocks_b275 F_size_b275) (Nat.le_of_ble_eq_true rfl) (Nat.le_of_ble_eq_true rfl) (Nat.le_of_ble_eq_true rfl) (Nat.le_of_ble_eq_true rfl) rfl rfl rfl (fun v284 h283 q285 => ?_)
      obtain ⟨rfl, K281, bl, d, kB, kD, hbl, hd, P282⟩ := q285
      have ne_b275_bl : b275 ≠ bl := Nat.ne_of_lt (Nat.lt_of_lt_of_le A278.lt hbl)
      have ge_bl : n0 ≤ bl := Nat.le_trans (f280.1 ▸ f280.2.1) hbl
      have ne_b275_d : b275 ≠ d := Nat.ne_of_lt (Nat.lt_of_lt_of_le A278.lt hd)
      have ge_d : n0 ≤ d := Nat.le_trans (f280.1 ▸ f280.2.1) hd
      have f286 := f280.keep K281 (allS ge_b275 all0)
      have f287 := A278.keep K281
      show G w _ h283 3 11 27 #[.val (.int p0), .val (.int p1), .val (.int p2), .val (.int p3), .val (.int p4), .val (.int p5), .val (.int (2 : Int32)), .val (.int (1 : Int32)), .unset, .unset, .unset] [(.ref b275)]
      refine g_astore C (pc' := 29) (Ls' := #[.val (.int p0), .val (.int p1), .val (.int p2), .val (.int p3), .val (.int p4), .val (.int p5), .val (.int (2 : Int32)), .val (.int (1 : Int32)), .val (.ref b275), .unset, .unset]) at_27 rfl rfl rfl rfl ?_
      refine g_aload C (pc' := 31) at_29 rfl rfl rfl ?_
      refine g_iloadN C (pc' := 32) at_31 rfl rfl ?_
      refine g_virtual C (pc' := 35) (k' := 3) (n' := 11) (argsL := [(.int p0)]) (rest := []) (wd hw 16 rfl) (wd hw 17 rfl) (nfSel (wd hw 19 rfl)) (wd hw 19 rfl) (wd hw 18 rfl) (wd hw 3 rfl) (wd hw 20 rfl) (by decide) at_32 pd_1 rfl rfl rfl f287 (il_add0 l Z a0 hw n0 h283 f286  b275 bl d kB kD (0 : Int32) (0 : Int32) (0 : Int32) (0 : Int32) (0 : Int32) (0 : Int32) (0 : Int32) (0 : Int32) p0 P282) (Nat.le_of_ble_eq_true rfl) (Nat.le_of_ble_eq_true rfl) (Nat.le_of_ble_eq_true rfl) (Nat.le_of_ble_eq_true rfl) rfl rfl rfl (fun v291 h290 q292 => ?_)
      obtain ⟨rfl, K288, P289⟩ := q292
      have f293 := f286.keep K288 (allS ge_b275 (allS ge_bl (allS ge_d all0)))
      have f294 := f287.keep K288
      show G w _ h290 3 11 35 #[.val (.int p0), .val (.int p1), .val (.int p2), .val (.int p3), .val (.int p4), .val (.int p5), .val (.int (2 : Int32)), .val (.int (1 : Int32)), .val (.ref b275), .unset, .unset] []
      refine g_iload C (pc' := 37) at_35 rfl rfl ?_
      refine g_iconst C (pc' := 38) (v := (2 : Int32)) at_37 (by decide) rfl ?_
      refine g_icN C (pc' := 41) at_38 rfl (by decide) rfl ?_
      refine g_aload C (pc' := 43) at_41 rfl rfl rfl ?_
      refine g_iloadN C (pc' := 44) at_43 rfl rfl ?_
      refine g_virtual C (pc' := 47) (k' := 3) (n' := 11) (argsL := [(.int p1)]) (rest := []) (wd hw 16 rfl) (wd hw 17 rfl) (nfSel (wd hw 19 rfl)) (wd hw 19 rfl) (wd hw 18 rfl) (wd hw 3 rfl) (wd hw 20 rfl) (by decide) at_44 pd_1 rfl rfl rfl f294 (il_add1 l Z a0 hw n0 h290 f293  b275 bl d kB kD p0 (0 : Int32) (0 : Int32) (0 : Int32) (0 : Int32) (0 : Int32) (0 : Int32) (0 : Int32) p1 P289) (Nat.le_of_ble_eq_true rfl) (Nat.le_of_ble_eq_true rfl) (Nat.le_of_ble_eq_true rfl) (Nat.le_of_ble_eq_true rfl) rfl rfl rfl (fun v298 h297 q299 => ?_)
      obtain ⟨rfl, K295, P296⟩ := q299
      have f300 := f293.keep K295 (allS ge_b275 (allS ge_bl (allS ge_d all0)))
      have f301 := f294.keep K295
      show G w _ h297 3 11 47 #[.val (.int p0), .val (.int p1), .val (.int p2), .val (.int p3), .val (.int p4), .val (.int p5), .val (.int (2 : Int32)), .val (.int (1 : Int32)), .val (.ref b275), .unset, .unset] []
      refine g_iload C (pc' := 49) at_47 rfl rfl ?_
      refine g_iconst C (pc' := 50) (v := (3 : Int32)) at_49 (by decide) rfl ?_
      refine g_icY C (pc' := 59) at_50 rfl (by decide) (by decide) rfl ?_
      refine g_aload C (pc' := 61) at_59 rfl rfl rfl ?_
      refine g_iload C (pc' := 63) at_61 rfl rfl ?_
      refine g_iload C (pc' := 65) at_63 rfl rfl ?_
      refine g_virtual C (pc' := 68) (k' := 3) (n' := 11) (argsL := [(.int (1 : Int32)), (.int p5)]) (rest := []) (wd hw 23 rfl) (wd hw 24 rfl) (nfSel (wd hw 26 rfl)) (wd hw 26 rfl) (wd hw 25 rfl) (wd hw 3 rfl) (wd hw 27 rfl) (by decide) at_65 pd_2 rfl rfl rfl f301 (il_set2_1 l Z a0 hw n0 h297 f300  b275 bl d kB kD p0 p1 (0 : Int32) (0 : Int32) (0 : Int32) (0 : Int32) (0 : Int32) (0 : Int32) p5 P296) (Nat.le_of_ble_eq_true rfl) (Nat.le_of_ble_eq_true rfl) (Nat.le_of_ble_eq_true rfl) (Nat.le_of_ble_eq_true rfl) rfl rfl rfl (fun v305 h304 q306 => ?_)
      obtain ⟨rfl, K302, P303⟩ := q306
      have f307 := f300.keep K302 (allS ge_b275 (allS ge_bl (allS ge_d all0)))
      have f308 := f301.keep K302
      show G w _ h304 3 11 68 #[.val (.int p0), .val (.int p1), .val (.int p2), .val (.int p3), .val (.int p4), .val (.int p5), .val (.int (2 : Int32)), .val (.int (1 : Int32)), .val (.ref b275), .unset, .unset] []
      refine g_aload C (pc' := 70) at_68 rfl rfl rfl ?_
      refine g_virtual C (pc' := 73) (k' := 3) (n' := 11) (argsL := []) (rest := []) (wd hw 36 rfl) (wd hw 37 rfl) (nfSel (wd hw 39 rfl)) (wd hw 39 rfl) (wd hw 38 rfl) (wd hw 3 rfl) (wd hw 40 rfl) (by decide) at_70 pd_5 rfl rfl rfl f308 (il_size2 l Z a0 hw n0 h304 f307  b275 bl d kB kD p0 p5 (0 : Int32) (0 : Int32) (0 : Int32) (0 : Int32) (0 : Int32) (0 : Int32) P303) (Nat.le_of_ble_eq_true rfl) (Nat.le_of_ble_eq_true rfl) (Nat.le_of_ble_eq_true rfl) (Nat.le_of_ble_eq_true rfl) rfl rfl rfl (fun v310 h309 q311 => ?_)
      obtain ⟨rfl, eh309⟩ := q311
      subst h309
      show G w _ h304 3 11 73 #[.val (.int p0), .val (.int p1), .val (.int p2), .val (.int p3), .val (.int p4), .val (.int p5), .val (.int (2 : Int32)), .val (.int (1 : Int32)), .val (.ref b275), .unset, .unset] [(.int (2 : Int32))]
      refine g_iload C (pc' := 75) at_73 rfl rfl ?_
      refine g_icY C (pc' := 80) at_75 rfl (by decide) (by decide) rfl ?_
      refine g_iload C (pc' := 82) at_80 rfl rfl ?_
      refine g_ifY C (pc' := 90) at_82 rfl (by decide) (by decide) rfl ?_
      refine g_iloadN C (pc' := 91) at_90 rfl rfl ?_
      refine g_istore C (pc' := 93) (Ls' := #[.val (.int p0), .val (.int p1), .val (.int p2), .val (.int p3), .val (.int p4), .val (.int p5), .val (.int (2 : Int32)), .val (.int (1 : Int32)), .val (.ref b275), .val (.int p0), .unset]) at_91 rfl rfl rfl ?_
      refine g_aload C (pc' := 95) at_93 rfl rfl rfl ?_
      refine g_iconst C (pc' := 96) (v := (0 : Int32)) at_95 (by decide) rfl ?_
      refine g_virtual C (pc' := 99) (k' := 3) (n' := 11) (argsL := [(.int (0 : Int32))]) (rest := []) (wd hw 41 rfl) (wd hw 42 rfl) (nfSel (wd hw 44 rfl)) (wd hw 44 rfl) (wd hw 43 rfl) (wd hw 3 rfl) (wd hw 45 rfl) (by decide) at_96 pd_6 rfl rfl rfl f308 (il_get2_0 l Z a0 hw n0 h304 f307  b275 bl d kB kD p0 p5 (0 : Int32) (0 : Int32) (0 : Int32) (0 : Int32) (0 : Int32) (0 : Int32) P303) (Nat.le_of_ble_eq_true rfl) (Nat.le_of_ble_eq_true rfl) (Nat.le_of_ble_eq_true rfl) (Nat.le_of_ble_eq_true rfl) rfl rfl rfl (fun v313 h312 q314 => ?_)
      obtain ⟨rfl, eh312⟩ := q314
      subst h312
      show G w _ h304 3 11 99 #[.val (.int p0), .val (.int p1), .val (.int p2), .val (.int p3), .val (.int p4), .val (.int p5), .val (.int (2 : Int32)), .val (.int (1 : Int32)), .val (.ref b275), .val (.int p0), .unset] [(.int p0)]
      refine g_iload C (pc' := 101) at_99 rfl rfl ?_
      refine g_icY C (pc' := 106) at_101 rfl (says_t (cd := .eq) (rfl)) (by decide) rfl ?_
      refine g_iload C (pc' := 108) at_106 rfl rfl ?_
      refine g_iconst C (pc' := 109) (v := (2 : Int32)) at_108 (by decide) rfl ?_
      refine g_icN C (pc' := 112) at_109 rfl (by decide) rfl ?_
      refine g_iload C (pc' := 114) at_112 rfl rfl ?_
      refine g_iconst C (pc' := 115) (v := (1 : Int32)) at_114 (by decide) rfl ?_
      refine g_icN C (pc' := 118) at_115 rfl (by decide) rfl ?_
      refine g_iload C (pc' := 120) at_118 rfl rfl ?_
      refine g_goto C (pc' := 124) at_120 (by decide) rfl ?_
      refine g_istore C (pc' := 126) (Ls' := #[.val (.int p0), .val (.int p1), .val (.int p2), .val (.int p3), .val (.int p4), .val (.int p5), .val (.int (2 : Int32)), .val (.int (1 : Int32)), .val (.ref b275), .val (.int p0), .val (.int p5)]) at_124 rfl rfl rfl ?_
      refine g_aload C (pc' := 128) at_126 rfl rfl rfl ?_
      refine g_iconst C (pc' := 129) (v := (1 : Int32)) at_128 (by decide) rfl ?_
      refine g_virtual C (pc' := 132) (k' := 3) (n' := 11) (argsL := [(.int (1 : Int32))]) (rest := []) (wd hw 41 rfl) (wd hw 42 rfl) (nfSel (wd hw 44 rfl)) (wd hw 44 rfl) (wd hw 43 rfl) (wd hw 3 rfl) (wd hw 45 rfl) (by decide) at_129 pd_6 rfl rfl rfl f308 (il_get2_1 l Z a0 hw n0 h304 f307  b275 bl d kB kD p0 p5 (0 : Int32) (0 : Int32) (0 : Int32) (0 : Int32) (0 : Int32) (0 : Int32) P303) (Nat.le_of_ble_eq_true rfl) (Nat.le_of_ble_eq_true rfl) (Nat.le_of_ble_eq_true rfl) (Nat.le_of_ble_eq_true rfl) rfl rfl rfl (fun v316 h315 q317 => ?_)
      obtain ⟨rfl, eh315⟩ := q317
      subst h315
      show G w _ h304 3 11 132 #[.val (.int p0), .val (.int p1), .val (.int p2), .val (.int p3), .val (.int p4), .val (.int p5), .val (.int (2 : Int32)), .val (.int (1 : Int32)), .val (.ref b275), .val (.int p0), .val (.int p5)] [(.int p5)]
      refine g_iload C (pc' := 134) at_132 rfl rfl ?_
      refine g_icY C (pc' := 139) at_134 rfl (says_t (cd := .eq) (rfl)) (by decide) rfl ?_
      refine g_iload C (pc' := 141) at_139 rfl rfl ?_
      refine g_iconst C (pc' := 142) (v := (3 : Int32)) at_141 (by decide) rfl ?_
      refine g_icY C (pc' := 172) at_142 rfl (by decide) (by decide) rfl ?_
      refine g_iconst C (pc' := 173) (v := (1 : Int32)) at_172 (by decide) rfl ?_
      exact g_zreturn C at_173 rfl rfl (Nat.le_of_ble_eq_true rfl) (Nat.le_of_ble_eq_true rfl) (rfl)
  · rw [e3]
    refine g_iconst C (pc' := 7) (v := (1 : Int32)) at_6 (by decide) rfl ?_
    refine g_iadd C (pc' := 8) at_7 rfl rfl ?_
    rw [show ((2 : Int32) + (1 : Int32)) = (3 : Int32) from by decide]
    refine g_istore C (pc' := 10) (Ls' := #[.val (.int p0), .val (.int p1), .val (.int p2), .val (.int p3), .val (.int p4), .val (.int p5), .val (.int (3 : Int32)), .unset, .unset, .unset, .unset]) at_8 rfl rfl rfl ?_
    refine g_iload C (pc' := 12) at_10 rfl rfl ?_
    refine g_ldcInt C (pc' := 14) (wd hw 0 rfl) at_12 rfl ?_
    refine g_iand C (pc' := 15) at_14 rfl rfl ?_
    refine g_iload C (pc' := 17) at_15 rfl rfl ?_
    refine g_irem C (pc' := 18) at_17 rfl (by decide) rfl ?_
    rcases own_mod3 p4 with ei | ei | ei
    · rw [ei]
      refine g_istore C (pc' := 20) (Ls' := #[.val (.int p0), .val (.int p1), .val (.int p2), .val (.int p3), .val (.int p4), .val (.int p5), .val (.int (3 : Int32)), .val (.int (0 : Int32)), .unset, .unset, .unset]) at_18 rfl rfl rfl ?_
      refine g_new C (pc' := 23) (k' := 1) (n' := 2) (wd hw 1 rfl) (wd hw 2 rfl) (wd hw 3 rfl) at_20 (by decide) (by decide) rfl rfl rfl (fun h318 b319 ex320 E321 A322 D323 => ?_)
      have ge_b319 : n0 ≤ b319 := by rw [ex320]; exact O.1 ▸ O.2.1
      have f324 := O.ext E321
      have F_blocks_b319 : Fld Z h318 b319 "com/example/ratatoskr/ratatoskr/index/IntList" "blocks" "[[I" .null := D323 (Or.inl (wd hw 15 rfl)) (ty := (.array (.array .int))) (by decide)
      have F_size_b319 : Fld Z h318 b319 "com/example/ratatoskr/ratatoskr/index/IntList" "size" "I" (.int (0 : Int32)) := D323 (Or.inl (wd hw 22 rfl)) (ty := .int) (by decide)
      refine g_dup C (pc' := 24) at_23 rfl rfl rfl ?_
      refine g_special C (pc' := 27) (k' := 3) (n' := 11) (argsL := []) (rest := [(.ref b319)]) (wd hw 4 rfl) (wd hw 5 rfl) (wd hw 3 rfl) (wd hw 6 rfl) (by decide) rfl at_24 pd_0 rfl rfl rfl (il_init l Z a0 hw n0 h318 f324  b319 ge_b319 A322 F_blocks_b319 F_size_b319) (Nat.le_of_ble_eq_true rfl) (Nat.le_of_ble_eq_true rfl) (Nat.le_of_ble_eq_true rfl) (Nat.le_of_ble_eq_true rfl) rfl rfl rfl (fun v328 h327 q329 => ?_)
      obtain ⟨rfl, K325, bl, d, kB, kD, hbl, hd, P326⟩ := q329
      have ne_b319_bl : b319 ≠ bl := Nat.ne_of_lt (Nat.lt_of_lt_of_le A322.lt hbl)
      have ge_bl : n0 ≤ bl := Nat.le_trans (f324.1 ▸ f324.2.1) hbl
      have ne_b319_d : b319 ≠ d := Nat.ne_of_lt (Nat.lt_of_lt_of_le A322.lt hd)
      have ge_d : n0 ≤ d := Nat.le_trans (f324.1 ▸ f324.2.1) hd
      have f330 := f324.keep K325 (allS ge_b319 all0)
      have f331 := A322.keep K325
      show G w _ h327 3 11 27 #[.val (.int p0), .val (.int p1), .val (.int p2), .val (.int p3), .val (.int p4), .val (.int p5), .val (.int (3 : Int32)), .val (.int (0 : Int32)), .unset, .unset, .unset] [(.ref b319)]
      refine g_astore C (pc' := 29) (Ls' := #[.val (.int p0), .val (.int p1), .val (.int p2), .val (.int p3), .val (.int p4), .val (.int p5), .val (.int (3 : Int32)), .val (.int (0 : Int32)), .val (.ref b319), .unset, .unset]) at_27 rfl rfl rfl rfl ?_
      refine g_aload C (pc' := 31) at_29 rfl rfl rfl ?_
      refine g_iloadN C (pc' := 32) at_31 rfl rfl ?_
      refine g_virtual C (pc' := 35) (k' := 3) (n' := 11) (argsL := [(.int p0)]) (rest := []) (wd hw 16 rfl) (wd hw 17 rfl) (nfSel (wd hw 19 rfl)) (wd hw 19 rfl) (wd hw 18 rfl) (wd hw 3 rfl) (wd hw 20 rfl) (by decide) at_32 pd_1 rfl rfl rfl f331 (il_add0 l Z a0 hw n0 h327 f330  b319 bl d kB kD (0 : Int32) (0 : Int32) (0 : Int32) (0 : Int32) (0 : Int32) (0 : Int32) (0 : Int32) (0 : Int32) p0 P326) (Nat.le_of_ble_eq_true rfl) (Nat.le_of_ble_eq_true rfl) (Nat.le_of_ble_eq_true rfl) (Nat.le_of_ble_eq_true rfl) rfl rfl rfl (fun v335 h334 q336 => ?_)
      obtain ⟨rfl, K332, P333⟩ := q336
      have f337 := f330.keep K332 (allS ge_b319 (allS ge_bl (allS ge_d all0)))
      have f338 := f331.keep K332
      show G w _ h334 3 11 35 #[.val (.int p0), .val (.int p1), .val (.int p2), .val (.int p3), .val (.int p4), .val (.int p5), .val (.int (3 : Int32)), .val (.int (0 : Int32)), .val (.ref b319), .unset, .unset] []
      refine g_iload C (pc' := 37) at_35 rfl rfl ?_
      refine g_iconst C (pc' := 38) (v := (2 : Int32)) at_37 (by decide) rfl ?_
      refine g_icN C (pc' := 41) at_38 rfl (by decide) rfl ?_
      refine g_aload C (pc' := 43) at_41 rfl rfl rfl ?_
      refine g_iloadN C (pc' := 44) at_43 rfl rfl ?_
      refine g_virtual C (pc' := 47) (k' := 3) (n' := 11) (argsL := [(.int p1)]) (rest := []) (wd hw 16 rfl) (wd hw 17 rfl) (nfSel (wd hw 19 rfl)) (wd hw 19 rfl) (wd hw 18 rfl) (wd hw 3 rfl) (wd hw 20 rfl) (by decide) at_44 pd_1 rfl rfl rfl f338 (il_add1 l Z a0 hw n0 h334 f337  b319 bl d kB kD p0 (0 : Int32) (0 : Int32) (0 : Int32) (0 : Int32) (0 : Int32) (0 : Int32) (0 : Int32) p1 P333) (Nat.le_of_ble_eq_true rfl) (Nat.le_of_ble_eq_true rfl) (Nat.le_of_ble_eq_true rfl) (Nat.le_of_ble_eq_true rfl) rfl rfl rfl (fun v342 h341 q343 => ?_)
      obtain ⟨rfl, K339, P340⟩ := q343
      have f344 := f337.keep K339 (allS ge_b319 (allS ge_bl (allS ge_d all0)))
      have f345 := f338.keep K339
      show G w _ h341 3 11 47 #[.val (.int p0), .val (.int p1), .val (.int p2), .val (.int p3), .val (.int p4), .val (.int p5), .val (.int (3 : Int32)), .val (.int (0 : Int32)), .val (.ref b319), .unset, .unset] []
      refine g_iload C (pc' := 49) at_47 rfl rfl ?_
      refine g_iconst C (pc' := 50) (v := (3 : Int32)) at_49 (by decide) rfl ?_
      refine g_icN C (pc' := 53) at_50 rfl (by decide) rfl ?_
      refine g_aload C (pc' := 55) at_53 rfl rfl rfl ?_
      refine g_iloadN C (pc' := 56) at_55 rfl rfl ?_
      refine g_virtual C (pc' := 59) (k' := 3) (n' := 11) (argsL := [(.int p2)]) (rest := []) (wd hw 16 rfl) (wd hw 17 rfl) (nfSel (wd hw 19 rfl)) (wd hw 19 rfl) (wd hw 18 rfl) (wd hw 3 rfl) (wd hw 20 rfl) (by decide) at_56 pd_1 rfl rfl rfl f345 (il_add2 l Z a0 hw n0 h341 f344  b319 bl d kB kD p0 p1 (0 : Int32) (0 : Int32) (0 : Int32) (0 : Int32) (0 : Int32) (0 : Int32) p2 P340) (Nat.le_of_ble_eq_true rfl) (Nat.le_of_ble_eq_true rfl) (Nat.le_of_ble_eq_true rfl) (Nat.le_of_ble_eq_true rfl) rfl rfl rfl (fun v349 h348 q350 => ?_)
      obtain ⟨rfl, K346, P347⟩ := q350
      have f351 := f344.keep K346 (allS ge_b319 (allS ge_bl (allS ge_d all0)))
      have f352 := f345.keep K346
      show G w _ h348 3 11 59 #[.val (.int p0), .val (.int p1), .val (.int p2), .val (.int p3), .val (.int p4), .val (.int p5), .val (.int (3 : Int32)), .val (.int (0 : Int32)), .val (.ref b319), .unset, .unset] []
      refine g_aload C (pc' := 61) at_59 rfl rfl rfl ?_
      refine g_iload C (pc' := 63) at_61 rfl rfl ?_
      refine g_iload C (pc' := 65) at_63 rfl rfl ?_
      refine g_virtual C (pc' := 68) (k' := 3) (n' := 11) (argsL := [(.int (0 : Int32)), (.int p5)]) (rest := []) (wd hw 23 rfl) (wd hw 24 rfl) (nfSel (wd hw 26 rfl)) (wd hw 26 rfl) (wd hw 25 rfl) (wd hw 3 rfl) (wd hw 27 rfl) (by decide) at_65 pd_2 rfl rfl rfl f352 (il_set3_0 l Z a0 hw n0 h348 f351  b319 bl d kB kD p0 p1 p2 (0 : Int32) (0 : Int32) (0 : Int32) (0 : Int32) (0 : Int32) p5 P347) (Nat.le_of_ble_eq_true rfl) (Nat.le_of_ble_eq_true rfl) (Nat.le_of_ble_eq_true rfl) (Nat.le_of_ble_eq_true rfl) rfl rfl rfl (fun v356 h355 q357 => ?_)
      obtain ⟨rfl, K353, P354⟩ := q357
      have f358 := f351.keep K353 (allS ge_b319 (allS ge_bl (allS ge_d all0)))
      have f359 := f352.keep K353
      show G w _ h355 3 11 68 #[.val (.int p0), .val (.int p1), .val (.int p2), .val (.int p3), .val (.int p4), .val (.int p5), .val (.int (3 : Int32)), .val (.int (0 : Int32)), .val (.ref b319), .unset, .unset] []
      refine g_aload C (pc' := 70) at_68 rfl rfl rfl ?_
      refine g_virtual C (pc' := 73) (k' := 3) (n' := 11) (argsL := []) (rest := []) (wd hw 36 rfl) (wd hw 37 rfl) (nfSel (wd hw 39 rfl)) (wd hw 39 rfl) (wd hw 38 rfl) (wd hw 3 rfl) (wd hw 40 rfl) (by decide) at_70 pd_5 rfl rfl rfl f359 (il_size3 l Z a0 hw n0 h355 f358  b319 bl d kB kD p5 p1 p2 (0 : Int32) (0 : Int32) (0 : Int32) (0 : Int32) (0 : Int32) P354) (Nat.le_of_ble_eq_true rfl) (Nat.le_of_ble_eq_true rfl) (Nat.le_of_ble_eq_true rfl) (Nat.le_of_ble_eq_true rfl) rfl rfl rfl (fun v361 h360 q362 => ?_)
      obtain ⟨rfl, eh360⟩ := q362
      subst h360
      show G w _ h355 3 11 73 #[.val (.int p0), .val (.int p1), .val (.int p2), .val (.int p3), .val (.int p4), .val (.int p5), .val (.int (3 : Int32)), .val (.int (0 : Int32)), .val (.ref b319), .unset, .unset] [(.int (3 : Int32))]
      refine g_iload C (pc' := 75) at_73 rfl rfl ?_
      refine g_icY C (pc' := 80) at_75 rfl (by decide) (by decide) rfl ?_
      refine g_iload C (pc' := 82) at_80 rfl rfl ?_
      refine g_ifN C (pc' := 85) at_82 rfl (by decide) rfl ?_
      refine g_iload C (pc' := 87) at_85 rfl rfl ?_
      refine g_goto C (pc' := 91) at_87 (by decide) rfl ?_
      refine g_istore C (pc' := 93) (Ls' := #[.val (.int p0), .val (.int p1), .val (.int p2), .val (.int p3), .val (.int p4), .val (.int p5), .val (.int (3 : Int32)), .val (.int (0 : Int32)), .val (.ref b319), .val (.int p5), .unset]) at_91 rfl rfl rfl ?_
      refine g_aload C (pc' := 95) at_93 rfl rfl rfl ?_
      refine g_iconst C (pc' := 96) (v := (0 : Int32)) at_95 (by decide) rfl ?_
      refine g_virtual C (pc' := 99) (k' := 3) (n' := 11) (argsL := [(.int (0 : Int32))]) (rest := []) (wd hw 41 rfl) (wd hw 42 rfl) (nfSel (wd hw 44 rfl)) (wd hw 44 rfl) (wd hw 43 rfl) (wd hw 3 rfl) (wd hw 45 rfl) (by decide) at_96 pd_6 rfl rfl rfl f359 (il_get3_0 l Z a0 hw n0 h355 f358  b319 bl d kB kD p5 p1 p2 (0 : Int32) (0 : Int32) (0 : Int32) (0 : Int32) (0 : Int32) P354) (Nat.le_of_ble_eq_true rfl) (Nat.le_of_ble_eq_true rfl) (Nat.le_of_ble_eq_true rfl) (Nat.le_of_ble_eq_true rfl) rfl rfl rfl (fun v364 h363 q365 => ?_)
      obtain ⟨rfl, eh363⟩ := q365
      subst h363
      show G w _ h355 3 11 99 #[.val (.int p0), .val (.int p1), .val (.int p2), .val (.int p3), .val (.int p4), .val (.int p5), .val (.int (3 : Int32)), .val (.int (0 : Int32)), .val (.ref b319), .val (.int p5), .unset] [(.int p5)]
      refine g_iload C (pc' := 101) at_99 rfl rfl ?_
      refine g_icY C (pc' := 106) at_101 rfl (says_t (cd := .eq) (rfl)) (by decide) rfl ?_
      refine g_iload C (pc' := 108) at_106 rfl rfl ?_
      refine g_iconst C (pc' := 109) (v := (2 : Int32)) at_108 (by decide) rfl ?_
      refine g_icN C (pc' := 112) at_109 rfl (by decide) rfl ?_
      refine g_iload C (pc' := 114) at_112 rfl rfl ?_
      refine g_iconst C (pc' := 115) (v := (1 : Int32)) at_114 (by decide) rfl ?_
      refine g_icY C (pc' := 123) at_115 rfl (by decide) (by decide) rfl ?_
      refine g_iloadN C (pc' := 124) at_123 rfl rfl ?_
      refine g_istore C (pc' := 126) (Ls' := #[.val (.int p0), .val (.int p1), .val (.int p2), .val (.int p3), .val (.int p4), .val (.int p5), .val (.int (3 : Int32)), .val (.int (0 : Int32)), .val (.ref b319), .val (.int p5), .val (.int p1)]) at_124 rfl rfl rfl ?_
      refine g_aload C (pc' := 128) at_126 rfl rfl rfl ?_
      refine g_iconst C (pc' := 129) (v := (1 : Int32)) at_128 (by decide) rfl ?_
      refine g_virtual C (pc' := 132) (k' := 3) (n' := 11) (argsL := [(.int (1 : Int32))]) (rest := []) (wd hw 41 rfl) (wd hw 42 rfl) (nfSel (wd hw 44 rfl)) (wd hw 44 rfl) (wd hw 43 rfl) (wd hw 3 rfl) (wd hw 45 rfl) (by decide) at_129 pd_6 rfl rfl rfl f359 (il_get3_1 l Z a0 hw n0 h355 f358  b319 bl d kB kD p5 p1 p2 (0 : Int32) (0 : Int32) (0 : Int32) (0 : Int32) (0 : Int32) P354) (Nat.le_of_ble_eq_true rfl) (Nat.le_of_ble_eq_true rfl) (Nat.le_of_ble_eq_true rfl) (Nat.le_of_ble_eq_true rfl) rfl rfl rfl (fun v367 h366 q368 => ?_)
      obtain ⟨rfl, eh366⟩ := q368
      subst h366
      show G w _ h355 3 11 132 #[.val (.int p0), .val (.int p1), .val (.int p2), .val (.int p3), .val (.int p4), .val (.int p5), .val (.int (3 : Int32)), .val (.int (0 : Int32)), .val (.ref b319), .val (.int p5), .val (.int p1)] [(.int p1)]
      refine g_iload C (pc' := 134) at_132 rfl rfl ?_
      refine g_icY C (pc' := 139) at_134 rfl (says_t (cd := .eq) (rfl)) (by decide) rfl ?_
      refine g_iload C (pc' := 141) at_139 rfl rfl ?_
      refine g_iconst C (pc' := 142) (v := (3 : Int32)) at_141 (by decide) rfl ?_
      refine g_icN C (pc' := 145) at_142 rfl (by decide) rfl ?_
      refine g_iload C (pc' := 147) at_145 rfl rfl ?_
      refine g_iconst C (pc' := 148) (v := (2 : Int32)) at_147 (by decide) rfl ?_
      refine g_icY C (pc' := 156) at_148 rfl (by decide) (by decide) rfl ?_
      refine g_iloadN C (pc' := 157) at_156 rfl rfl ?_
      refine g_istore C (pc' := 159) (Ls' := #[.val (.int p0), .val (.int p1), .val (.int p2), .val (.int p3), .val (.int p4), .val (.int p5), .val (.int (3 : Int32)), .val (.int (0 : Int32)), .val (.ref b319), .val (.int p5), .val (.int p2)]) at_157 rfl rfl rfl ?_
      refine g_aload C (pc' := 161) at_159 rfl rfl rfl ?_
      refine g_iconst C (pc' := 162) (v := (2 : Int32)) at_161 (by decide) rfl ?_
      refine g_virtual C (pc' := 165) (k' := 3) (n' := 11) (argsL := [(.int (2 : Int32))]) (rest := []) (wd hw 41 rfl) (wd hw 42 rfl) (nfSel (wd hw 44 rfl)) (wd hw 44 rfl) (wd hw 43 rfl) (wd hw 3 rfl) (wd hw 45 rfl) (by decide) at_162 pd_6 rfl rfl rfl f359 (il_get3_2 l Z a0 hw n0 h355 f358  b319 bl d kB kD p5 p1 p2 (0 : Int32) (0 : Int32) (0 : Int32) (0 : Int32) (0 : Int32) P354) (Nat.le_of_ble_eq_true rfl) (Nat.le_of_ble_eq_true rfl) (Nat.le_of_ble_eq_true rfl) (Nat.le_of_ble_eq_true rfl) rfl rfl rfl (fun v370 h369 q371 => ?_)
      obtain ⟨rfl, eh369⟩ := q371
      subst h369
      show G w _ h355 3 11 165 #[.val (.int p0), .val (.int p1), .val (.int p2), .val (.int p3), .val (.int p4), .val (.int p5), .val (.int (3 : Int32)), .val (.int (0 : Int32)), .val (.ref b319), .val (.int p5), .val (.int p2)] [(.int p2)]
      refine g_iload C (pc' := 167) at_165 rfl rfl ?_
      refine g_icY C (pc' := 172) at_167 rfl (says_t (cd := .eq) (rfl)) (by decide) rfl ?_
      refine g_iconst C (pc' := 173) (v := (1 : Int32)) at_172 (by decide) rfl ?_
      exact g_zreturn C at_173 rfl rfl (Nat.le_of_ble_eq_true rfl) (Nat.le_of_ble_eq_true rfl) (rfl)
    · rw [ei]
      refine g_istore C (pc' := 20) (Ls' := #[.val (.int p0), .val (.int p1), .val (.int p2), .val (.int p3), .val (.int p4), .val (.int p5), .val (.int (3 : Int32)), .val (.int (1 : Int32)), .unset, .unset, .unset]) at_18 rfl rfl rfl ?_
      refine g_new C (pc' := 23) (k' := 1) (n' := 2) (wd hw 1 rfl) (wd hw 2 rfl) (wd hw 3 rfl) at_20 (by decide) (by decide) rfl rfl rfl (fun h372 b373 ex374 E375 A376 D377 => ?_)
      have ge_b373 : n0 ≤ b373 := by rw [ex374]; exact O.1 ▸ O.2.1
      have f378 := O.ext E375
      have F_blocks_b373 : Fld Z h372 b373 "com/example/ratatoskr/ratatoskr/index/IntList" "blocks" "[[I" .null := D377 (Or.inl (wd hw 15 rfl)) (ty := (.array (.array .int))) (by decide)
      have F_size_b373 : Fld Z h372 b373 "com/example/ratatoskr/ratatoskr/index/IntList" "size" "I" (.int (0 : Int32)) := D377 (Or.inl (wd hw 22 rfl)) (ty := .int) (by decide)
      refine g_dup C (pc' := 24) at_23 rfl rfl rfl ?_
      refine g_special C (pc' := 27) (k' := 3) (n' := 11) (argsL := []) (rest := [(.ref b373)]) (wd hw 4 rfl) (wd hw 5 rfl) (wd hw 3 rfl) (wd hw 6 rfl) (by decide) rfl at_24 pd_0 rfl rfl rfl (il_init l Z a0 hw n0 h372 f378  b373 ge_b373 A376 F_blocks_b373 F_size_b373) (Nat.le_of_ble_eq_true rfl) (Nat.le_of_ble_eq_true rfl) (Nat.le_of_ble_eq_true rfl) (Nat.le_of_ble_eq_true rfl) rfl rfl rfl (fun v382 h381 q383 => ?_)
      obtain ⟨rfl, K379, bl, d, kB, kD, hbl, hd, P380⟩ := q383
      have ne_b373_bl : b373 ≠ bl := Nat.ne_of_lt (Nat.lt_of_lt_of_le A376.lt hbl)
      have ge_bl : n0 ≤ bl := Nat.le_trans (f378.1 ▸ f378.2.1) hbl
      have ne_b373_d : b373 ≠ d := Nat.ne_of_lt (Nat.lt_of_lt_of_le A376.lt hd)
      have ge_d : n0 ≤ d := Nat.le_trans (f378.1 ▸ f378.2.1) hd
      have f384 := f378.keep K379 (allS ge_b373 all0)
      have f385 := A376.keep K379
      show G w _ h381 3 11 27 #[.val (.int p0), .val (.int p1), .val (.int p2), .val (.int p3), .val (.int p4), .val (.int p5), .val (.int (3 : Int32)), .val (.int (1 : Int32)), .unset, .unset, .unset] [(.ref b373)]
      refine g_astore C (pc' := 29) (Ls' := #[.val (.int p0), .val (.int p1), .val (.int p2), .val (.int p3), .val (.int p4), .val (.int p5), .val (.int (3 : Int32)), .val (.int (1 : Int32)), .val (.ref b373), .unset, .unset]) at_27 rfl rfl rfl rfl ?_
      refine g_aload C (pc' := 31) at_29 rfl rfl rfl ?_
      refine g_iloadN C (pc' := 32) at_31 rfl rfl ?_
      refine g_virtual C (pc' := 35) (k' := 3) (n' := 11) (argsL := [(.int p0)]) (rest := []) (wd hw 16 rfl) (wd hw 17 rfl) (nfSel (wd hw 19 rfl)) (wd hw 19 rfl) (wd hw 18 rfl) (wd hw 3 rfl) (wd hw 20 rfl) (by decide) at_32 pd_1 rfl rfl rfl f385 (il_add0 l Z a0 hw n0 h381 f384  b373 bl d kB kD (0 : Int32) (0 : Int32) (0 : Int32) (0 : Int32) (0 : Int32) (0 : Int32) (0 : Int32) (0 : Int32) p0 P380) (Nat.le_of_ble_eq_true rfl) (Nat.le_of_ble_eq_true rfl) (Nat.le_of_ble_eq_true rfl) (Nat.le_of_ble_eq_true rfl) rfl rfl rfl (fun v389 h388 q390 => ?_)
      obtain ⟨rfl, K386, P387⟩ := q390
      have f391 := f384.keep K386 (allS ge_b373 (allS ge_bl (allS ge_d all0)))
      have f392 := f385.keep K386
      show G w _ h388 3 11 35 #[.val (.int p0), .val (.int p1), .val (.int p2), .val (.int p3), .val (.int p4), .val (.int p5), .val (.int (3 : Int32)), .val (.int (1 : Int32)), .val (.ref b373), .unset, .unset] []
      refine g_iload C (pc' := 37) at_35 rfl rfl ?_
      refine g_iconst C (pc' := 38) (v := (2 : Int32)) at_37 (by decide) rfl ?_
      refine g_icN C (pc' := 41) at_38 rfl (by decide) rfl ?_
      refine g_aload C (pc' := 43) at_41 rfl rfl rfl ?_
      refine g_iloadN C (pc' := 44) at_43 rfl rfl ?_
      refine g_virtual C (pc' := 47) (k' := 3) (n' := 11) (argsL := [(.int p1)]) (rest := []) (wd hw 16 rfl) (wd hw 17 rfl) (nfSel (wd hw 19 rfl)) (wd hw 19 rfl) (wd hw 18 rfl) (wd hw 3 rfl) (wd hw 20 rfl) (by decide) at_44 pd_1 rfl rfl rfl f392 (il_add1 l Z a0 hw n0 h388 f391  b373 bl d kB kD p0 (0 : Int32) (0 : Int32) (0 : Int32) (0 : Int32) (0 : Int32) (0 : Int32) (0 : Int32) p1 P387) (Nat.le_of_ble_eq_true rfl) (Nat.le_of_ble_eq_true rfl) (Nat.le_of_ble_eq_true rfl) (Nat.le_of_ble_eq_true rfl) rfl rfl rfl (fun v396 h395 q397 => ?_)
      obtain ⟨rfl, K393, P394⟩ := q397
      have f398 := f391.keep K393 (allS ge_b373 (allS ge_bl (allS ge_d all0)))
      have f399 := f392.keep K393
      show G w _ h395 3 11 47 #[.val (.int p0), .val (.int p1), .val (.int p2), .val (.int p3), .val (.int p4), .val (.int p5), .val (.int (3 : Int32)), .val (.int (1 : Int32)), .val (.ref b373), .unset, .unset] []
      refine g_iload C (pc' := 49) at_47 rfl rfl ?_
      refine g_iconst C (pc' := 50) (v := (3 : Int32)) at_49 (by decide) rfl ?_
      refine g_icN C (pc' := 53) at_50 rfl (by decide) rfl ?_
      refine g_aload C (pc' := 55) at_53 rfl rfl rfl ?_
      refine g_iloadN C (pc' := 56) at_55 rfl rfl ?_
      refine g_virtual C (pc' := 59) (k' := 3) (n' := 11) (argsL := [(.int p2)]) (rest := []) (wd hw 16 rfl) (wd hw 17 rfl) (nfSel (wd hw 19 rfl)) (wd hw 19 rfl) (wd hw 18 rfl) (wd hw 3 rfl) (wd hw 20 rfl) (by decide) at_56 pd_1 rfl rfl rfl f399 (il_add2 l Z a0 hw n0 h395 f398  b373 bl d kB kD p0 p1 (0 : Int32) (0 : Int32) (0 : Int32) (0 : Int32) (0 : Int32) (0 : Int32) p2 P394) (Nat.le_of_ble_eq_true rfl) (Nat.le_of_ble_eq_true rfl) (Nat.le_of_ble_eq_true rfl) (Nat.le_of_ble_eq_true rfl) rfl rfl rfl (fun v403 h402 q404 => ?_)
      obtain ⟨rfl, K400, P401⟩ := q404
      have f405 := f398.keep K400 (allS ge_b373 (allS ge_bl (allS ge_d all0)))
      have f406 := f399.keep K400
      show G w _ h402 3 11 59 #[.val (.int p0), .val (.int p1), .val (.int p2), .val (.int p3), .val (.int p4), .val (.int p5), .val (.int (3 : Int32)), .val (.int (1 : Int32)), .val (.ref b373), .unset, .unset] []
      refine g_aload C (pc' := 61) at_59 rfl rfl rfl ?_
      refine g_iload C (pc' := 63) at_61 rfl rfl ?_
      refine g_iload C (pc' := 65) at_63 rfl rfl ?_
      refine g_virtual C (pc' := 68) (k' := 3) (n' := 11) (argsL := [(.int (1 : Int32)), (.int p5)]) (rest := []) (wd hw 23 rfl) (wd hw 24 rfl) (nfSel (wd hw 26 rfl)) (wd hw 26 rfl) (wd hw 25 rfl) (wd hw 3 rfl) (wd hw 27 rfl) (by decide) at_65 pd_2 rfl rfl rfl f406 (il_set3_1 l Z a0 hw n0 h402 f405  b373 bl d kB kD p0 p1 p2 (0 : Int32) (0 : Int32) (0 : Int32) (0 : Int32) (0 : Int32) p5 P401) (Nat.le_of_ble_eq_true rfl) (Nat.le_of_ble_eq_true rfl) (Nat.le_of_ble_eq_true rfl) (Nat.le_of_ble_eq_true rfl) rfl rfl rfl (fun v410 h409 q411 => ?_)
      obtain ⟨rfl, K407, P408⟩ := q411
      have f412 := f405.keep K407 (allS ge_b373 (allS ge_bl (allS ge_d all0)))
      have f413 := f406.keep K407
      show G w _ h409 3 11 68 #[.val (.int p0), .val (.int p1), .val (.int p2), .val (.int p3), .val (.int p4), .val (.int p5), .val (.int (3 : Int32)), .val (.int (1 : Int32)), .val (.ref b373), .unset, .unset] []
      refine g_aload C (pc' := 70) at_68 rfl rfl rfl ?_
      refine g_virtual C (pc' := 73) (k' := 3) (n' := 11) (argsL := []) (rest := []) (wd hw 36 rfl) (wd hw 37 rfl) (nfSel (wd hw 39 rfl)) (wd hw 39 rfl) (wd hw 38 rfl) (wd hw 3 rfl) (wd hw 40 rfl) (by decide) at_70 pd_5 rfl rfl rfl f413 (il_size3 l Z a0 hw n0 h409 f412  b373 bl d kB kD p0 p5 p2 (0 : Int32) (0 : Int32) (0 : Int32) (0 : Int32) (0 : Int32) P408) (Nat.le_of_ble_eq_true rfl) (Nat.le_of_ble_eq_true rfl) (Nat.le_of_ble_eq_true rfl) (Nat.le_of_ble_eq_true rfl) rfl rfl rfl (fun v415 h414 q416 => ?_)
      obtain ⟨rfl, eh414⟩ := q416
      subst h414
      show G w _ h409 3 11 73 #[.val (.int p0), .val (.int p1), .val (.int p2), .val (.int p3), .val (.int p4), .val (.int p5), .val (.int (3 : Int32)), .val (.int (1 : Int32)), .val (.ref b373), .unset, .unset] [(.int (3 : Int32))]
      refine g_iload C (pc' := 75) at_73 rfl rfl ?_
      refine g_icY C (pc' := 80) at_75 rfl (by decide) (by decide) rfl ?_
      refine g_iload C (pc' := 82) at_80 rfl rfl ?_
      refine g_ifY C (pc' := 90) at_82 rfl (by decide) (by decide) rfl ?_
      refine g_iloadN C (pc' := 91) at_90 rfl rfl ?_
      refine g_istore C (pc' := 93) (Ls' := #[.val (.int p0), .val (.int p1), .val (.int p2), .val (.int p3), .val (.int p4), .val (.int p5), .val (.int (3 : Int32)), .val (.int (1 : Int32)), .val (.ref b373), .val (.int p0), .unset]) at_91 rfl rfl rfl ?_
      refine g_aload C (pc' := 95) at_93 rfl rfl rfl ?_
      refine g_iconst C (pc' := 96) (v := (0 : Int32)) at_95 (by decide) rfl ?_
      refine g_virtual C (pc' := 99) (k' := 3) (n' := 11) (argsL := [(.int (0 : Int32))]) (rest := []) (wd hw 41 rfl) (wd hw 42 rfl) (nfSel (wd hw 44 rfl)) (wd hw 44 rfl) (wd hw 43 rfl) (wd hw 3 rfl) (wd hw 45 rfl) (by decide) at_96 pd_6 rfl rfl rfl f413 (il_get3_0 l Z a0 hw n0 h409 f412  b373 bl d kB kD p0 p5 p2 (0 : Int32) (0 : Int32) (0 : Int32) (0 : Int32) (0 : Int32) P408) (Nat.le_of_ble_eq_true rfl) (Nat.le_of_ble_eq_true rfl) (Nat.le_of_ble_eq_true rfl) (Nat.le_of_ble_eq_true rfl) rfl rfl rfl (fun v418 h417 q419 => ?_)
      obtain ⟨rfl, eh417⟩ := q419
      subst h417
      show G w _ h409 3 11 99 #[.val (.int p0), .val (.int p1), .val (.int p2), .val (.int p3), .val (.int p4), .val (.int p5), .val (.int (3 : Int32)), .val (.int (1 : Int32)), .val (.ref b373), .val (.int p0), .unset] [(.int p0)]
      refine g_iload C (pc' := 101) at_99 rfl rfl ?_
      refine g_icY C (pc' := 106) at_101 rfl (says_t (cd := .eq) (rfl)) (by decide) rfl ?_
      refine g_iload C (pc' := 108) at_106 rfl rfl ?_
      refine g_iconst C (pc' := 109) (v := (2 : Int32)) at_108 (by decide) rfl ?_
      refine g_icN C (pc' := 112) at_109 rfl (by decide) rfl ?_
      refine g_iload C (pc' := 114) at_112 rfl rfl ?_
      refine g_iconst C (pc' := 115) (v := (1 : Int32)) at_114 (by decide) rfl ?_
      refine g_icN C (pc' := 118) at_115 rfl (by decide) rfl ?_
      refine g_iload C (pc' := 120) at_118 rfl rfl ?_
      refine g_goto C (pc' := 124) at_120 (by decide) rfl ?_
      refine g_istore C (pc' := 126) (Ls' := #[.val (.int p0), .val (.int p1), .val (.int p2), .val (.int p3), .val (.int p4), .val (.int p5), .val (.int (3 : Int32)), .val (.int (1 : Int32)), .val (.ref b373), .val (.int p0), .val (.int p5)]) at_124 rfl rfl rfl ?_
      refine g_aload C (pc' := 128) at_126 rfl rfl rfl ?_
      refine g_iconst C (pc' := 129) (v := (1 : Int32)) at_128 (by decide) rfl ?_
      refine g_virtual C (pc' := 132) (k' := 3) (n' := 11) (argsL := [(.int (1 : Int32))]) (rest := []) (wd hw 41 rfl) (wd hw 42 rfl) (nfSel (wd hw 44 rfl)) (wd hw 44 rfl) (wd hw 43 rfl) (wd hw 3 rfl) (wd hw 45 rfl) (by decide) at_129 pd_6 rfl rfl rfl f413 (il_get3_1 l Z a0 hw n0 h409 f412  b373 bl d kB kD p0 p5 p2 (0 : Int32) (0 : Int32) (0 : Int32) (0 : Int32) (0 : Int32) P408) (Nat.le_of_ble_eq_true rfl) (Nat.le_of_ble_eq_true rfl) (Nat.le_of_ble_eq_true rfl) (Nat.le_of_ble_eq_true rfl) rfl rfl rfl (fun v421 h420 q422 => ?_)
      obtain ⟨rfl, eh420⟩ := q422
      subst h420
      show G w _ h409 3 11 132 #[.val (.int p0), .val (.int p1), .val (.int p2), .val (.int p3), .val (.int p4), .val (.int p5), .val (.int (3 : Int32)), .val (.int (1 : Int32)), .val (.ref b373), .val (.int p0), .val (.int p5)] [(.int p5)]
      refine g_iload C (pc' := 134) at_132 rfl rfl ?_
      refine g_icY C (pc' := 139) at_134 rfl (says_t (cd := .eq) (rfl)) (by decide) rfl ?_
      refine g_iload C (pc' := 141) at_139 rfl rfl ?_
      refine g_iconst C (pc' := 142) (v := (3 : Int32)) at_141 (by decide) rfl ?_
      refine g_icN C (pc' := 145) at_142 rfl (by decide) rfl ?_
      refine g_iload C (pc' := 147) at_145 rfl rfl ?_
      refine g_iconst C (pc' := 148) (v := (2 : Int32)) at_147 (by decide) rfl ?_
      refine g_icY C (pc' := 156) at_148 rfl (by decide) (by decide) rfl ?_
      refine g_iloadN C (pc' := 157) at_156 rfl rfl ?_
      refine g_istore C (pc' := 159) (Ls' := #[.val (.int p0), .val (.int p1), .val (.int p2), .val (.int p3), .val (.int p4), .val (.int p5), .val (.int (3 : Int32)), .val (.int (1 : Int32)), .val (.ref b373), .val (.int p0), .val (.int p2)]) at_157 rfl rfl rfl ?_
      refine g_aload C (pc' := 161) at_159 rfl rfl rfl ?_
      refine g_iconst C (pc' := 162) (v := (2 : Int32)) at_161 (by decide) rfl ?_
      refine g_virtual C (pc' := 165) (k' := 3) (n' := 11) (argsL := [(.int (2 : Int32))]) (rest := []) (wd hw 41 rfl) (wd hw 42 rfl) (nfSel (wd hw 44 rfl)) (wd hw 44 rfl) (wd hw 43 rfl) (wd hw 3 rfl) (wd hw 45 rfl) (by decide) at_162 pd_6 rfl rfl rfl f413 (il_get3_2 l Z a0 hw n0 h409 f412  b373 bl d kB kD p0 p5 p2 (0 : Int32) (0 : Int32) (0 : Int32) (0 : Int32) (0 : Int32) P408) (Nat.le_of_ble_eq_true rfl) (Nat.le_of_ble_eq_true rfl) (Nat.le_of_ble_eq_true rfl) (Nat.le_of_ble_eq_true rfl) rfl rfl rfl (fun v424 h423 q425 => ?_)
      obtain ⟨rfl, eh423⟩ := q425
      subst h423
      show G w _ h409 3 11 165 #[.val (.int p0), .val (.int p1), .val (.int p2), .val (.int p3), .val (.int p4), .val (.int p5), .val (.int (3 : Int32)), .val (.int (1 : Int32)), .val (.ref b373), .val (.int p0), .val (.int p2)] [(.int p2)]
      refine g_iload C (pc' := 167) at_165 rfl rfl ?_
      refine g_icY C (pc' := 172) at_167 rfl (says_t (cd := .eq) (rfl)) (by decide) rfl ?_
      refine g_iconst C (pc' := 173) (v := (1 : Int32)) at_172 (by decide) rfl ?_
      exact g_zreturn C at_173 rfl rfl (Nat.le_of_ble_eq_true rfl) (Nat.le_of_ble_eq_true rfl) (rfl)
    · rw [ei]
      refine g_istore C (pc' := 20) (Ls' := #[.val (.int p0), .val (.int p1), .val (.int p2), .val (.int p3), .val (.int p4), .val (.int p5), .val (.int (3 : Int32)), .val (.int (2 : Int32)), .unset, .unset, .unset]) at_18 rfl rfl rfl ?_
      refine g_new C (pc' := 23) (k' := 1) (n' := 2) (wd hw 1 rfl) (wd hw 2 rfl) (wd hw 3 rfl) at_20 (by decide) (by decide) rfl rfl rfl (fun h426 b427 ex428 E429 A430 D431 => ?_)
      have ge_b427 : n0 ≤ b427 := by rw [ex428]; exact O.1 ▸ O.2.1
      have f432 := O.ext E429
      have F_blocks_b427 : Fld Z h426 b427 "com/example/ratatoskr/ratatoskr/index/IntList" "blocks" "[[I" .null := D431 (Or.inl (wd hw 15 rfl)) (ty := (.array (.array .int))) (by decide)
      have F_size_b427 : Fld Z h426 b427 "com/example/ratatoskr/ratatoskr/index/IntList" "size" "I" (.int (0 : Int32)) := D431 (Or.inl (wd hw 22 rfl)) (ty := .int) (by decide)
      refine g_dup C (pc' := 24) at_23 rfl rfl rfl ?_
      refine g_special C (pc' := 27) (k' := 3) (n' := 11) (argsL := []) (rest := [(.ref b427)]) (wd hw 4 rfl) (wd hw 5 rfl) (wd hw 3 rfl) (wd hw 6 rfl) (by decide) rfl at_24 pd_0 rfl rfl rfl (il_init l Z a0 hw n0 h426 f432  b427 ge_b427 A430 F_blocks_b427 F_size_b427) (Nat.le_of_ble_eq_true rfl) (Nat.le_of_ble_eq_true rfl) (Nat.le_of_ble_eq_true rfl) (Nat.le_of_ble_eq_true rfl) rfl rfl rfl (fun v436 h435 q437 => ?_)
      obtain ⟨rfl, K433, bl, d, kB, kD, hbl, hd, P434⟩ := q437
      have ne_b427_bl : b427 ≠ bl := Nat.ne_of_lt (Nat.lt_of_lt_of_le A430.lt hbl)
      have ge_bl : n0 ≤ bl := Nat.le_trans (f432.1 ▸ f432.2.1) hbl
      have ne_b427_d : b427 ≠ d := Nat.ne_of_lt (Nat.lt_of_lt_of_le A430.lt hd)
      have ge_d : n0 ≤ d := Nat.le_trans (f432.1 ▸ f432.2.1) hd
      have f438 := f432.keep K433 (allS ge_b427 all0)
      have f439 := A430.keep K433
      show G w _ h435 3 11 27 #[.val (.int p0), .val (.int p1), .val (.int p2), .val (.int p3), .val (.int p4), .val (.int p5), .val (.int (3 : Int32)), .val (.int (2 : Int32)), .unset, .unset, .unset] [(.ref b427)]
      refine g_astore C (pc' := 29) (Ls' := #[.val (.int p0), .val (.int p1), .val (.int p2), .val (.int p3), .val (.int p4), .val (.int p5), .val (.int (3 : Int32)), .val (.int (2 : Int32)), .val (.ref b427), .unset, .unset]) at_27 rfl rfl rfl rfl ?_
      refine g_aload C (pc' := 31) at_29 rfl rfl rfl ?_
      refine g_iloadN C (pc' := 32) at_31 rfl rfl ?_
      refine g_virtual C (pc' := 35) (k' := 3) (n' := 11) (argsL := [(.int p0)]) (rest := []) (wd hw 16 rfl) (wd hw 17 rfl) (nfSel (wd hw 19 rfl)) (wd hw 19 rfl) (wd hw 18 rfl) (wd hw 3 rfl) (wd hw 20 rfl) (by decide) at_32 pd_1 rfl rfl rfl f439 (il_add0 l Z a0 hw n0 h435 f438  b427 bl d kB kD (0 : Int32) (0 : Int32) (0 : Int32) (0 : Int32) (0 : Int32) (0 : Int32) (0 : Int32) (0 : Int32) p0 P434) (Nat.le_of_ble_eq_true rfl) (Nat.le_of_ble_eq_true rfl) (Nat.le_of_ble_eq_true rfl) (Nat.le_of_ble_eq_true rfl) rfl rfl rfl (fun v443 h442 q444 => ?_)
      obtain ⟨rfl, K440, P441⟩ := q444
      have f445 := f438.keep K440 (allS ge_b427 (allS ge_bl (allS ge_d all0)))
      have f446 := f439.keep K440
      show G w _ h442 3 11 35 #[.val (.int p0), .val (.int p1), .val (.int p2), .val (.int p3), .val (.int p4), .val (.int p5), .val (.int (3 : Int32)), .val (.int (2 : Int32)), .val (.ref b427), .unset, .unset] []
      refine g_iload C (pc' := 37) at_35 rfl rfl ?_
      refine g_iconst C (pc' := 38) (v := (2 : Int32)) at_37 (by decide) rfl ?_
      refine g_icN C (pc' := 41) at_38 rfl (by decide) rfl ?_
      refine g_aload C (pc' := 43) at_41 rfl rfl rfl ?_
      refine g_iloadN C (pc' := 44) at_43 rfl rfl ?_
      refine g_virtual C (pc' := 47) (k' := 3) (n' := 11) (argsL := [(.int p1)]) (rest := []) (wd hw 16 rfl) (wd hw 17 rfl) (nfSel (wd hw 19 rfl)) (wd hw 19 rfl) (wd hw 18 rfl) (wd hw 3 rfl) (wd hw 20 rfl) (by decide) at_44 pd_1 rfl rfl rfl f446 (il_add1 l Z a0 hw n0 h442 f445  b427 bl d kB kD p0 (0 : Int32) (0 : Int32) (0 : Int32) (0 : Int32) (0 : Int32) (0 : Int32) (0 : Int32) p1 P441) (Nat.le_of_ble_eq_true rfl) (Nat.le_of_ble_eq_true rfl) (Nat.le_of_ble_eq_true rfl) (Nat.le_of_ble_eq_true rfl) rfl rfl rfl (fun v450 h449 q451 => ?_)
      obtain ⟨rfl, K447, P448⟩ := q451
      have f452 := f445.keep K447 (allS ge_b427 (allS ge_bl (allS ge_d all0)))
      have f453 := f446.keep K447
      show G w _ h449 3 11 47 #[.val (.int p0), .val (.int p1), .val (.int p2), .val (.int p3), .val (.int p4), .val (.int p5), .val (.int (3 : Int32)), .val (.int (2 : Int32)), .val (.ref b427), .unset, .unset] []
      refine g_iload C (pc' := 49) at_47 rfl rfl ?_
      refine g_iconst C (pc' := 50) (v := (3 : Int32)) at_49 (by decide) rfl ?_
      refine g_icN C (pc' := 53) at_50 rfl (by decide) rfl ?_
      refine g_aload C (pc' := 55) at_53 rfl rfl rfl ?_
      refine g_iloadN C (pc' := 56) at_55 rfl rfl ?_
      refine g_virtual C (pc' := 59) (k' := 3) (n' := 11) (argsL := [(.int p2)]) (rest := []) (wd hw 16 rfl) (wd hw 17 rfl) (nfSel (wd hw 19 rfl)) (wd hw 19 rfl) (wd hw 18 rfl) (wd hw 3 rfl) (wd hw 20 rfl) (by decide) at_56 pd_1 rfl rfl rfl f453 (il_add2 l Z a0 hw n0 h449 f452  b427 bl d kB kD p0 p1 (0 : Int32) (0 : Int32) (0 : Int32) (0 : Int32) (0 : Int32) (0 : Int32) p2 P448) (Nat.le_of_ble_eq_true rfl) (Nat.le_of_ble_eq_true rfl) (Nat.le_of_ble_eq_true rfl) (Nat.le_of_ble_eq_true rfl) rfl rfl rfl (fun v457 h456 q458 => ?_)
      obtain ⟨rfl, K454, P455⟩ := q458
      have f459 := f452.keep K454 (allS ge_b427 (allS ge_bl (allS ge_d all0)))
      have f460 := f453.keep K454
      show G w _ h456 3 11 59 #[.val (.int p0), .val (.int p1), .val (.int p2), .val (.int p3), .val (.int p4), .val (.int p5), .val (.int (3 : Int32)), .val (.int (2 : Int32)), .val (.ref b427), .unset, .unset] []
      refine g_aload C (pc' := 61) at_59 rfl rfl rfl ?_
      refine g_iload C (pc' := 63) at_61 rfl rfl ?_
      refine g_iload C (pc' := 65) at_63 rfl rfl ?_
      refine g_virtual C (pc' := 68) (k' := 3) (n' := 11) (argsL := [(.int (2 : Int32)), (.int p5)]) (rest := []) (wd hw 23 rfl) (wd hw 24 rfl) (nfSel (wd hw 26 rfl)) (wd hw 26 rfl) (wd hw 25 rfl) (wd hw 3 rfl) (wd hw 27 rfl) (by decide) at_65 pd_2 rfl rfl rfl f460 (il_set3_2 l Z a0 hw n0 h456 f459  b427 bl d kB kD p0 p1 p2 (0 : Int32) (0 : Int32) (0 : Int32) (0 : Int32) (0 : Int32) p5 P455) (Nat.le_of_ble_eq_true rfl) (Nat.le_of_ble_eq_true rfl) (Nat.le_of_ble_eq_true rfl) (Nat.le_of_ble_eq_true rfl) rfl rfl rfl (fun v464 h463 q465 => ?_)
      obtain ⟨rfl, K461, P462⟩ := q465
      have f466 := f459.keep K461 (allS ge_b427 (allS ge_bl (allS ge_d all0)))
      have f467 := f460.keep K461
      show G w _ h463 3 11 68 #[.val (.int p0), .val (.int p1), .val (.int p2), .val (.int p3), .val (.int p4), .val (.int p5), .val (.int (3 : Int32)), .val (.int (2 : Int32)), .val (.ref b427), .unset, .unset] []
      refine g_aload C (pc' := 70) at_68 rfl rfl rfl ?_
      refine g_virtual C (pc' := 73) (k' := 3) (n' := 11) (argsL := []) (rest := []) (wd hw 36 rfl) (wd hw 37 rfl) (nfSel (wd hw 39 rfl)) (wd hw 39 rfl) (wd hw 38 rfl) (wd hw 3 rfl) (wd hw 40 rfl) (by decide) at_70 pd_5 rfl rfl rfl f467 (il_size3 l Z a0 hw n0 h463 f466  b427 bl d kB kD p0 p1 p5 (0 : Int32) (0 : Int32) (0 : Int32) (0 : Int32) (0 : Int32) P462) (Nat.le_of_ble_eq_true rfl) (Nat.le_of_ble_eq_true rfl) (Nat.le_of_ble_eq_true rfl) (Nat.le_of_ble_eq_true rfl) rfl rfl rfl (fun v469 h468 q470 => ?_)
      obtain ⟨rfl, eh468⟩ := q470
      subst h468
      show G w _ h463 3 11 73 #[.val (.int p0), .val (.int p1), .val (.int p2), .val (.int p3), .val (.int p4), .val (.int p5), .val (.int (3 : Int32)), .val (.int (2 : Int32)), .val (.ref b427), .unset, .unset] [(.int (3 : Int32))]
      refine g_iload C (pc' := 75) at_73 rfl rfl ?_
      refine g_icY C (pc' := 80) at_75 rfl (by decide) (by decide) rfl ?_
      refine g_iload C (pc' := 82) at_80 rfl rfl ?_
      refine g_ifY C (pc' := 90) at_82 rfl (by decide) (by decide) rfl ?_
      refine g_iloadN C (pc' := 91) at_90 rfl rfl ?_
      refine g_istore C (pc' := 93) (Ls' := #[.val (.int p0), .val (.int p1), .val (.int p2), .val (.int p3), .val (.int p4), .val (.int p5), .val (.int (3 : Int32)), .val (.int (2 : Int32)), .val (.ref b427), .val (.int p0), .unset]) at_91 rfl rfl rfl ?_
      refine g_aload C (pc' := 95) at_93 rfl rfl rfl ?_
      refine g_iconst C (pc' := 96) (v := (0 : Int32)) at_95 (by decide) rfl ?_
      refine g_virtual C (pc' := 99) (k' := 3) (n' := 11) (argsL := [(.int (0 : Int32))]) (rest := []) (wd hw 41 rfl) (wd hw 42 rfl) (nfSel (wd hw 44 rfl)) (wd hw 44 rfl) (wd hw 43 rfl) (wd hw 3 rfl) (wd hw 45 rfl) (by decide) at_96 pd_6 rfl rfl rfl f467 (il_get3_0 l Z a0 hw n0 h463 f466  b427 bl d kB kD p0 p1 p5 (0 : Int32) (0 : Int32) (0 : Int32) (0 : Int32) (0 : Int32) P462) (Nat.le_of_ble_eq_true rfl) (Nat.le_of_ble_eq_true rfl) (Nat.le_of_ble_eq_true rfl) (Nat.le_of_ble_eq_true rfl) rfl rfl rfl (fun v472 h471 q473 => ?_)
      obtain ⟨rfl, eh471⟩ := q473
      subst h471
      show G w _ h463 3 11 99 #[.val (.int p0), .val (.int p1), .val (.int p2), .val (.int p3), .val (.int p4), .val (.int p5), .val (.int (3 : Int32)), .val (.int (2 : Int32)), .val (.ref b427), .val (.int p0), .unset] [(.int p0)]
      refine g_iload C (pc' := 101) at_99 rfl rfl ?_
      refine g_icY C (pc' := 106) at_101 rfl (says_t (cd := .eq) (rfl)) (by decide) rfl ?_
      refine g_iload C (pc' := 108) at_106 rfl rfl ?_
      refine g_iconst C (pc' := 109) (v := (2 : Int32)) at_108 (by decide) rfl ?_
      refine g_icN C (pc' := 112) at_109 rfl (by decide) rfl ?_
      refine g_iload C (pc' := 114) at_112 rfl rfl ?_
      refine g_iconst C (pc' := 115) (v := (1 : Int32)) at_114 (by decide) rfl ?_
      refine g_icY C (pc' := 123) at_115 rfl (by decide) (by decide) rfl ?_
      refine g_iloadN C (pc' := 124) at_123 rfl rfl ?_
      refine g_istore C (pc' := 126) (Ls' := #[.val (.int p0), .val (.int p1), .val (.int p2), .val (.int p3), .val (.int p4), .val (.int p5), .val (.int (3 : Int32)), .val (.int (2 : Int32)), .val (.ref b427), .val (.int p0), .val (.int p1)]) at_124 rfl rfl rfl ?_
      refine g_aload C (pc' := 128) at_126 rfl rfl rfl ?_
      refine g_iconst C (pc' := 129) (v := (1 : Int32)) at_128 (by decide) rfl ?_
      refine g_virtual C (pc' := 132) (k' := 3) (n' := 11) (argsL := [(.int (1 : Int32))]) (rest := []) (wd hw 41 rfl) (wd hw 42 rfl) (nfSel (wd hw 44 rfl)) (wd hw 44 rfl) (wd hw 43 rfl) (wd hw 3 rfl) (wd hw 45 rfl) (by decide) at_129 pd_6 rfl rfl rfl f467 (il_get3_1 l Z a0 hw n0 h463 f466  b427 bl d kB kD p0 p1 p5 (0 : Int32) (0 : Int32) (0 : Int32) (0 : Int32) (0 : Int32) P462) (Nat.le_of_ble_eq_true rfl) (Nat.le_of_ble_eq_true rfl) (Nat.le_of_ble_eq_true rfl) (Nat.le_of_ble_eq_true rfl) rfl rfl rfl (fun v475 h474 q476 => ?_)
      obtain ⟨rfl, eh474⟩ := q476
      subst h474
      show G w _ h463 3 11 132 #[.val (.int p0), .val (.int p1), .val (.int p2), .val (.int p3), .val (.int p4), .val (.int p5), .val (.int (3 : Int32)), .val (.int (2 : Int32)), .val (.ref b427), .val (.int p0), .val (.int p1)] [(.int p1)]
      refine g_iload C (pc' := 134) at_132 rfl rfl ?_
      refine g_icY C (pc' := 139) at_134 rfl (says_t (cd := .eq) (rfl)) (by decide) rfl ?_
      refine g_iload C (pc' := 141) at_139 rfl rfl ?_
      refine g_iconst C (pc' := 142) (v := (3 : Int32)) at_141 (by decide) rfl ?_
      refine g_icN C (pc' := 145) at_142 rfl (by decide) rfl ?_
      refine g_iload C (pc' := 147) at_145 rfl rfl ?_
      refine g_iconst C (pc' := 148) (v := (2 : Int32)) at_147 (by decide) rfl ?_
      refine g_icN C (pc' := 151) at_148 rfl (by decide) rfl ?_
      refine g_iload C (pc' := 153) at_151 rfl rfl ?_
      refine g_goto C (pc' := 157) at_153 (by decide) rfl ?_
      refine g_istore C (pc' := 159) (Ls' := #[.val (.int p0), .val (.int p1), .val (.int p2), .val (.int p3), .val (.int p4), .val (.int p5), .val (.int (3 : Int32)), .val (.int (2 : Int32)), .val (.ref b427), .val (.int p0), .val (.int p5)]) at_157 rfl rfl rfl ?_
      refine g_aload C (pc' := 161) at_159 rfl rfl rfl ?_
      refine g_iconst C (pc' := 162) (v := (2 : Int32)) at_161 (by decide) rfl ?_
      refine g_virtual C (pc' := 165) (k' := 3) (n' := 11) (argsL := [(.int (2 : Int32))]) (rest := []) (wd hw 41 rfl) (wd hw 42 rfl) (nfSel (wd hw 44 rfl)) (wd hw 44 rfl) (wd hw 43 rfl) (wd hw 3 rfl) (wd hw 45 rfl) (by decide) at_162 pd_6 rfl rfl rfl f467 (il_get3_2 l Z a0 hw n0 h463 f466  b427 bl d kB kD p0 p1 p5 (0 : Int32) (0 : Int32) (0 : Int32) (0 : Int32) (0 : Int32) P462) (Nat.le_of_ble_eq_true rfl) (Nat.le_of_ble_eq_true rfl) (Nat.le_of_ble_eq_true rfl) (Nat.le_of_ble_eq_true rfl) rfl rfl rfl (fun v478 h477 q479 => ?_)
      obtain ⟨rfl, eh477⟩ := q479
      subst h477
      show G w _ h463 3 11 165 #[.val (.int p0), .val (.int p1), .val (.int p2), .val (.int p3), .val (.int p4), .val (.int p5), .val (.int (3 : Int32)), .val (.int (2 : Int32)), .val (.ref b427), .val (.int p0), .val (.int p5)] [(.int p5)]
      refine g_iload C (pc' := 167) at_165 rfl rfl ?_
      refine g_icY C (pc' := 172) at_167 rfl (says_t (cd := .eq) (rfl)) (by decide) rfl ?_
      refine g_iconst C (pc' := 173) (v := (1 : Int32)) at_172 (by decide) rfl ?_
      exact g_zreturn C at_173 rfl rfl (Nat.le_of_ble_eq_true rfl) (Nat.le_of_ble_eq_true rfl) (rfl)
set_option maxRecDepth 65536 in
set_option maxHeartbeats 40000000 in
theorem comes_1 {Post : Tables → Env → Array Value → State → Outcome → State → Prop} (hpost : ∀ tb e args s v u, (limb_1_1.after args s (.returned v) u = true ∧ limb_1_2.after args s (.returned v) u = true ∧ True) → FrameEnd s (.returned v) u (Jvm.fieldLocs frame_1_writes args s ++ Jvm.arrayLocs frame_1_arrays args s ++ Jvm.staticLocs frame_1_statics s) 16 128 → Post tb e args s (.returned v) u) :
    ArmFor flags0 classFile x code maxLocals ret World_1 tables_1 room_1 Calls_1 rest_1 Pre_1 Post := by
  intro l hfl _ _ p e ha hc hk s m args below hf hA hF happ hP
  obtain ⟨hcalls, hrest, hpre⟩ := hP
  obtain ⟨-, -, -, hnamed, -, -, -, hat⟩ := (Spec.applies_iff hf).mp happ
  obtain ⟨hg, hn⟩ := and_e (Cond.before_iff.mp (show (Jvm.Cond.and given_1 narrow_1).before args s = true from hpre))
  obtain ⟨hga, hgb⟩ := and_e hg
  obtain ⟨hgba, hgbb⟩ := and_e hgb
  obtain ⟨hgbba, hgbbb⟩ := and_e hgbb
  obtain ⟨hgbbba, hgbbbb⟩ := and_e hgbbb
  obtain ⟨hgbbbba, hgbbbbb⟩ := and_e hgbbbb
  obtain ⟨hgbbbbba, hgbbbbbb⟩ := and_e hgbbbbb
  obtain ⟨w0, w1, w2, w3, w4, w5, rfl⟩ : ∃ w0 w1 w2 w3 w4 w5 : Value, args = #[w0, w1, w2, w3, w4, w5] := by
    have hs : args.size = 6 := by simpa [Cond.value, given_1] using hga
    obtain ⟨L⟩ := args
    match L, hs with
    | [w0, w1, w2, w3, w4, w5], _ => exact ⟨w0, w1, w2, w3, w4, w5, rfl⟩
  have hw := fun d (hd : d ∈ tables_1) => atoms_spec (ws := Jvm.Cond.code x code maxLocals ret :: tables_1) hat d (List.mem_cons_of_mem _ hd)
  have hfit : Fit s := fun {y c} hc i hi => by
    obtain ⟨ha, rfl⟩ := Array.getElem?_eq_some_iff.mp hc
    have q := List.all_eq_true.mp ((Array.all_eq_true_iff_forall_mem.mp hF) _ (Array.getElem_mem ha)) i (List.mem_range.mpr hi)
    simpa [Array.getElem?_eq_getElem hi] using q
  obtain ⟨i0, ei0⟩ := is_v hgba
  obtain rfl : w0 = (.int i0) := Option.some.inj ei0
  obtain ⟨i1, ei1⟩ := is_v hgbba
  obtain rfl : w1 = (.int i1) := Option.some.inj ei1
  obtain ⟨i2, ei2⟩ := is_v hgbbba
  obtain rfl : w2 = (.int i2) := Option.some.inj ei2
  obtain ⟨i3, ei3⟩ := is_v hgbbbba
  obtain rfl : w3 = (.int i3) := Option.some.inj ei3
  obtain ⟨i4, ei4⟩ := is_v hgbbbbba
  obtain rfl : w4 = (.int i4) := Option.some.inj ei4
  obtain ⟨i5, ei5⟩ := is_v hgbbbbbb
  obtain rfl : w5 = (.int i5) := Option.some.inj ei5
  obtain ⟨n, o, h1, h2, h3, _, L, rfl, ⟨rfl, N⟩, hq⟩ := rm0 l s _ hw s.heap.size s.heap (Old.start s)  i0 i1 i2 i3 i4 i5  tables_1 p e ha hc hk s m _ below hf ((Spec.applies_iff_loose hf).mp happ).1 ⟨rfl, State.Warmed39.refl s, rfl⟩ trivial
  refine ⟨n, _, h1, h2, h3, hpost _ _ _ _ _ _ ⟨Cond.after_iff.mpr rfl, Cond.after_iff.mpr (eq_i res_at (Term.int_eval (1)) rfl), trivial⟩ ⟨hq.1, hq.2.1, (hq.2.2.sift fun y hy => Or.inr (N y hy)).mono (by decide) (by decide)⟩⟩
theorem main_1_1 : Claimed_1_1 := comes_1 fun _ _ _ _ _ _ h hF => ⟨h.1, hF⟩
theorem main_1_2 : Claimed_1_2 := comes_1 fun _ _ _ _ _ _ h hF => ⟨h.2.1, hF⟩
end Jvm.Pilot.@@N@@
namespace Jvm.Pilot.@@N@@
open Jvm Jvm.ClassFile Sem Op Lib Jvm.Free Jvm.Stand Jvm.Pilot.@@N@@.Jvm.D
/-! MADE BY PROGRAM (witnessworld.py) out of the Statement's table words and the real class files: 11 classes; the members and pool entries that the words name. The judged class is class 1, her method 1. -/
namespace start1
open Jvm.ClassFile
def u (s : String) : CpInfo := .utf8 (stringToUtf16 s)
/-- a pool by its gaps: so many unusable entries, then the entry; so many at the end -/
def gap : Nat → List CpInfo → List CpInfo
  | 0, r => r
  | n + 1, r => .unusable :: gap n r
def poolList (es : List (Nat × CpInfo)) (last : Nat) : List CpInfo := es.foldr (fun e r => gap e.1 (e.2 :: r)) (gap last [])
def pool (es : List (Nat × CpInfo)) (last : Nat) : Array CpInfo := ⟨poolList es last⟩
def fileOf (pool : Array CpInfo) (this : Nat) (attrs : Array Attribute := #[]) (ms : Array MethodInfo := #[]) (fl : Nat := 33) (sup : Nat := 0) (ifs : Array Nat := #[]) (fds : Array FieldInfo := #[]) : ClassFile where
  minorVersion := 0
  majorVersion := 65
  constantPool := pool
  accessFlags := fl
  thisClass := this
  superClass := sup
  interfaces := ifs
  fields := fds
  methods := ms
  attributes := attrs
def plain (name : String) (sup : Option ClassId) : Class where
  name := name
  kind := .ordinary
  loader := none
  accessFlags := 33
  super := sup
  interfaces := #[]
  cf := none
  fields := #[]
  methods := #[]
  instanceTypes := #[]
  staticTypes := #[]
  resolved := #[]
  callSites := []
  init := .initialized
  statics := none
  mirror := none

def pool0 : Array CpInfo := pool [(5, u "<init>"), (0, u "()V"), (1, .class_ 10), (1, u "java/lang/Object")] 113

def k0c0 : Code := { maxStack := 0, maxLocals := 1, code := object_method_1_code, exceptionTable := #[], attributes := #[] }
def k0m0 : Method := { name := "<init>", desc := "()V", sig := { parameters := [], returnType := none }, accessFlags := 1, code := some k0c0 }
/-- java/lang/Object -/
def k0 : Class := { plain "java/lang/Object" none with
  accessFlags := 33
  interfaces := #[]
  cf := some (fileOf pool0 8 #[] #[{ accessFlags := 1, nameIndex := 5, descriptorIndex := 6, attributes := #[] }] 33 0 #[] #[])
  fields := #[]
  methods := #[k0m0]
  instanceTypes := #[]
  staticTypes := #[]
  resolved := Array.replicate 124 none
  statics := none }

def pool1 : Array CpInfo := pool [(2, .class_ 4), (0, .nameAndType 5 6), (0, u "java/lang/Object"), (0, u "<init>"), (0, u "()V"), (0, .integer 2147483647), (0, .class_ 9), (0, u "com/example/ratatoskr/ratatoskr/index/IntList"), (0, .methodref 8 3), (0, .methodref 8 12), (0, .nameAndType 13 14), (0, u "add"), (0, u "(I)V"), (0, .methodref 8 16), (0, .nameAndType 17 18), (0, u "set"), (0, u "(II)V"), (0, .methodref 8 20), (0, .nameAndType 21 22), (0, u "size"), (0, u "()I"), (0, .methodref 8 24), (0, .nameAndType 25 26), (0, u "get"), (0, u "(I)I"), (0, .class_ 28), (0, u "com/example/ratatoskr/ratatoskr/index/IntListSetPinLaw"), (2, u "law"), (0, u "(IIIIII)Z")] 3

def k1m0 : Method := { name := "<init>", desc := "()V", sig := { parameters := [], returnType := none }, accessFlags := 1, code := none }
def k1c1 : Code := { maxStack := 3, maxLocals := 11, code := code, exceptionTable := #[], attributes := #[] }
def k1m1 : Method := { name := "law", desc := "(IIIIII)Z", sig := { parameters := [.int, .int, .int, .int, .int, .int], returnType := some .boolean }, accessFlags := 9, code := some k1c1 }
/-- com/example/ratatoskr/ratatoskr/index/IntListSetPinLaw -/
def k1 : Class := { plain "com/example/ratatoskr/ratatoskr/index/IntListSetPinLaw" (some 0) with
  accessFlags := 49
  interfaces := #[]
  cf := some (fileOf pool1 27 #[] #[{ accessFlags := 1, nameIndex := 5, descriptorIndex := 6, attributes := #[] }, { accessFlags := 9, nameIndex := 31, descriptorIndex := 32, attributes := #[] }] 49 2 #[] #[])
  fields := #[]
  methods := #[k1m0, k1m1]
  instanceTypes := #[]
  staticTypes := #[]
  resolved := Array.replicate 36 none
  statics := none }

def pool2 : Array CpInfo := pool [(1, .class_ 2), (0, u "com/example/ratatoskr/ratatoskr/index/IntList"), (0, .methodref 4 5), (0, .class_ 6), (0, .nameAndType 7 8), (0, u "java/lang/Object"), (0, u "<init>"), (0, u "()V"), (0, .class_ 10), (0, u "[I"), (0, .fieldref 1 12), (0, .nameAndType 13 14), (0, u "blocks"), (0, u "[[I"), (0, .fieldref 1 16), (0, .nameAndType 17 18), (0, u "size"), (0, u "I"), (10, .methodref 30 31), (0, .class_ 32), (0, .nameAndType 33 34), (0, u "java/util/Objects"), (0, u "checkIndex"), (0, u "(II)I"), (2, u "get"), (0, u "(I)I"), (11, u "BLOCK_SHIFT"), (2, u "BLOCK_SIZE"), (1, u "BLOCK_MASK"), (3, u "add"), (0, u "(I)V"), (1, u "set"), (0, u "(II)V"), (1, u "()I")] 5

def k2c0 : Code := { maxStack := 5, maxLocals := 1, code := prog_10_method_1_code, exceptionTable := #[], attributes := #[] }
def k2m0 : Method := { name := "<init>", desc := "()V", sig := { parameters := [], returnType := none }, accessFlags := 0, code := some k2c0 }
def k2c1 : Code := { maxStack := 5, maxLocals := 4, code := prog_10_method_2_code, exceptionTable := #[], attributes := #[] }
def k2m1 : Method := { name := "add", desc := "(I)V", sig := { parameters := [.int], returnType := none }, accessFlags := 0, code := some k2c1 }
def k2c2 : Code := { maxStack := 3, maxLocals := 2, code := prog_10_method_3_code, exceptionTable := #[], attributes := #[] }
def k2m2 : Method := { name := "get", desc := "(I)I", sig := { parameters := [.int], returnType := some .int }, accessFlags := 0, code := some k2c2 }
def k2c3 : Code := { maxStack := 3, maxLocals := 3, code := prog_10_method_4_code, exceptionTable := #[], attributes := #[] }
def k2m3 : Method := { name := "set", desc := "(II)V", sig := { parameters := [.int, .int], returnType := none }, accessFlags := 0, code := some k2c3 }
def k2c4 : Code := { maxStack := 1, maxLocals := 1, code := prog_10_method_7_code, exceptionTable := #[], attributes := #[] }
def k2m4 : Method := { name := "size", desc := "()I", sig := { parameters := [], returnType := some .int }, accessFlags := 0, code := some k2c4 }
/-- com/example/ratatoskr/ratatoskr/index/IntList -/
def k2 : Class := { plain "com/example/ratatoskr/ratatoskr/index/IntList" (some 0) with
  accessFlags := 48
  interfaces := #[]
  cf := some (fileOf pool2 1 #[] #[{ accessFlags := 0, nameIndex := 7, descriptorIndex := 8, attributes := #[] }, { accessFlags := 0, nameIndex := 59, descriptorIndex := 60, attributes := #[] }, { accessFlags := 0, nameIndex := 37, descriptorIndex := 38, attributes := #[] }, { accessFlags := 0, nameIndex := 62, descriptorIndex := 63, attributes := #[] }, { accessFlags := 0, nameIndex := 17, descriptorIndex := 65, attributes := #[] }] 48 4 #[] #[{ accessFlags := 26, nameIndex := 50, descriptorIndex := 18, attributes := #[] }, { accessFlags := 26, nameIndex := 53, descriptorIndex := 18, attributes := #[] }, { accessFlags := 26, nameIndex := 55, descriptorIndex := 18, attributes := #[] }, { accessFlags := 2, nameIndex := 13, descriptorIndex := 14, attributes := #[] }, { accessFlags := 2, nameIndex := 17, descriptorIndex := 18, attributes := #[] }])
  fields := #[{ name := "BLOCK_SHIFT", type := .int, accessFlags := 26, slot := 0, constantValue := 0 }, { name := "BLOCK_SIZE", type := .int, accessFlags := 26, slot := 1, constantValue := 0 }, { name := "BLOCK_MASK", type := .int, accessFlags := 26, slot := 2, constantValue := 0 }, { name := "blocks", type := (.array (.array .int)), accessFlags := 2, slot := 0, constantValue := 0 }, { name := "size", type := .int, accessFlags := 2, slot := 1, constantValue := 0 }]
  methods := #[k2m0, k2m1, k2m2, k2m3, k2m4]
  instanceTypes := #[(.array (.array .int)), .int]
  staticTypes := #[.int, .int, .int]
  resolved := Array.replicate 71 none
  statics := none }

def pool3 : Array CpInfo := pool [(2, .class_ 4), (1, u "java/lang/Object"), (0, u "<init>"), (0, u "()V"), (35, .class_ 44), (1, u "java/util/Objects"), (60, .methodref 106 107), (0, .class_ 108), (0, .nameAndType 109 110), (0, u "jdk/internal/util/Preconditions"), (0, u "checkIndex"), (0, u "(IILjava/util/function/BiFunction;)I"), (60, u "(II)I")] 12

def k3m0 : Method := { name := "<init>", desc := "()V", sig := { parameters := [], returnType := none }, accessFlags := 2, code := none }
def k3c1 : Code := { maxStack := 3, maxLocals := 2, code := jdk_31_method_17_code, exceptionTable := #[], attributes := #[] }
def k3m1 : Method := { name := "checkIndex", desc := "(II)I", sig := { parameters := [.int, .int], returnType := some .int }, accessFlags := 9, code := some k3c1 }
/-- java/util/Objects -/
def k3 : Class := { plain "java/util/Objects" (some 0) with
  accessFlags := 49
  interfaces := #[]
  cf := some (fileOf pool3 42 #[] #[{ accessFlags := 2, nameIndex := 5, descriptorIndex := 6, attributes := #[] }, { accessFlags := 9, nameIndex := 109, descriptorIndex := 171, attributes := #[] }] 49 2 #[] #[])
  fields := #[]
  methods := #[k3m0, k3m1]
  instanceTypes := #[]
  staticTypes := #[]
  resolved := Array.replicate 184 none
  statics := none }

def pool4 : Array CpInfo := pool [(2, .class_ 4), (1, u "java/lang/Object"), (0, u "<init>"), (0, u "()V"), (17, .class_ 26), (1, u "jdk/internal/util/Preconditions"), (6, u "checkIndex"), (21, .class_ 56), (0, u "jdk/internal/util/Preconditions$4"), (57, .class_ 115), (0, u "jdk/internal/util/Preconditions$1"), (7, u "SIOOBE_FORMATTER"), (0, u "Ljava/util/function/BiFunction;"), (0, .class_ 126), (0, u "jdk/internal/util/Preconditions$2"), (3, u "AIOOBE_FORMATTER"), (0, .class_ 132), (0, u "jdk/internal/util/Preconditions$3"), (3, u "IOOBE_FORMATTER"), (41, u "(IILjava/util/function/BiFunction;)I")] 15

def k4m0 : Method := { name := "<init>", desc := "()V", sig := { parameters := [], returnType := none }, accessFlags := 1, code := none }
def k4c1 : Code := { maxStack := 3, maxLocals := 3, code := jdk_41_method_11_code, exceptionTable := #[], attributes := #[] }
def k4m1 : Method := { name := "checkIndex", desc := "(IILjava/util/function/BiFunction;)I", sig := { parameters := [.int, .int, (.object "java/util/function/BiFunction")], returnType := some .int }, accessFlags := 9, code := some k4c1 }
/-- jdk/internal/util/Preconditions -/
def k4 : Class := { plain "jdk/internal/util/Preconditions" (some 0) with
  accessFlags := 33
  interfaces := #[]
  cf := some (fileOf pool4 24 #[.nestMembers #[55, 131, 125, 114]] #[{ accessFlags := 1, nameIndex := 5, descriptorIndex := 6, attributes := #[] }, { accessFlags := 9, nameIndex := 33, descriptorIndex := 178, attributes := #[] }] 33 2 #[] #[{ accessFlags := 25, nameIndex := 123, descriptorIndex := 124, attributes := #[] }, { accessFlags := 25, nameIndex := 130, descriptorIndex := 124, attributes := #[] }, { accessFlags := 25, nameIndex := 136, descriptorIndex := 124, attributes := #[] }])
  fields := #[{ name := "SIOOBE_FORMATTER", type := (.object "java/util/function/BiFunction"), accessFlags := 25, slot := 0, constantValue := 0 }, { name := "AIOOBE_FORMATTER", type := (.object "java/util/function/BiFunction"), accessFlags := 25, slot := 1, constantValue := 0 }, { name := "IOOBE_FORMATTER", type := (.object "java/util/function/BiFunction"), accessFlags := 25, slot := 2, constantValue := 0 }]
  methods := #[k4m0, k4m1]
  instanceTypes := #[]
  staticTypes := #[(.object "java/util/function/BiFunction"), (.object "java/util/function/BiFunction"), (.object "java/util/function/BiFunction")]
  resolved := Array.replicate 194 none
  statics := none }

def pool5 : Array CpInfo := pool [(1, u "java/lang/Cloneable"), (0, .class_ 1), (0, u "java/lang/Object"), (0, .class_ 3)] 3

/-- java/lang/Cloneable -/
def k5 : Class := { plain "java/lang/Cloneable" (some 0) with
  accessFlags := 1537
  interfaces := #[]
  cf := some (fileOf pool5 2 #[] #[] 1537 4 #[] #[])
  fields := #[]
  methods := #[]
  instanceTypes := #[]
  staticTypes := #[]
  resolved := Array.replicate 8 none
  statics := none }

def pool6 : Array CpInfo := pool [(1, u "java/io/Serializable"), (0, .class_ 1), (0, u "java/lang/Object"), (0, .class_ 3)] 3

/-- java/io/Serializable -/
def k6 : Class := { plain "java/io/Serializable" (some 0) with
  accessFlags := 1537
  interfaces := #[]
  cf := some (fileOf pool6 2 #[] #[] 1537 4 #[] #[])
  fields := #[]
  methods := #[]
  instanceTypes := #[]
  staticTypes := #[]
  resolved := Array.replicate 8 none
  statics := none }

/-- the primitive byte -/
def k7 : Class := { plain "byte" none with kind := .primitive 'B', accessFlags := 0x411 }
/-- [B -/
def k8 : Class := { plain "[B" (some 0) with kind := .array 7 .byte, interfaces := #[5, 6], accessFlags := 1041 }

/-- the primitive int -/
def k9 : Class := { plain "int" none with kind := .primitive 'I', accessFlags := 0x411 }
/-- [I -/
def k10 : Class := { plain "[I" (some 0) with kind := .array 9 .int, interfaces := #[5, 6], accessFlags := 1041 }

/-- [[I -/
def k11 : Class := { plain "[[I" (some 0) with kind := .array 10 (.array .int), interfaces := #[5, 6], accessFlags := 1041 }
def heap : Heap := #[]
def classes : Array Class := #[k0, k1, k2, k3, k4, k5, k6, k7, k8, k9, k10, k11]
def interned : List (Array UInt16 × Addr) := []
def slotsUsed : Nat := 0
def theMethod : MethodId := ⟨1, 1⟩
def args0 : Array Value := #[.int 2, .int 5, .int 1, .int 1, .int 1, .int 9]
def aboutOver (below : List Frame) : State where
  vm := { classes := classes, interned := interned.toArray }
  heap := heap
  slotsUsed := slotsUsed
  threads := #[{ frames := .invoking theMethod args0 :: below }]
def below0 : List Frame := [.native { method := ⟨0, 0⟩, args := #[] }]
def about1 : State := aboutOver below0
def p0 : Program := .bare "" "" ""
def e0 : Env := launch0.env 0 0 0
theorem w_frames : about1.frames = Frame.invoking theMethod args0 :: below0 := rfl
set_option maxRecDepth 65536 in
theorem w_args : argsFit about1.vm theMethod args0 = true := by decide +kernel
set_option maxRecDepth 65536 in
theorem w_heap : heapFits about1 = true := by decide +kernel
set_option maxRecDepth 65536 in
theorem w_runnable : about1.curStatus? = some .runnable := by decide +kernel
set_option maxRecDepth 65536 in
theorem w_alone : about1.alone = true := by decide +kernel
set_option maxRecDepth 65536 in
theorem w_named : about1.methodNamed? x = some theMethod := by decide +kernel
set_option maxRecDepth 65536 in
theorem w_hears : about1.hears theMethod below0 = true := by decide +kernel
set_option maxRecDepth 65536 in
theorem w_ripe : about1.ripe theMethod args0 below0 = true := by decide +kernel
theorem w_running : about1.status = .running := rfl
set_option maxRecDepth 65536 in
theorem w_room : about1.hasRoom e0.platform room_1 = true :=
  launch0.hasRoom_least _ room_1 (by decide +kernel) (by decide +kernel) (by decide +kernel) (by decide +kernel) (by decide +kernel) (by decide +kernel)
theorem allAtoms_all (ts : List Jvm.Cond) (a : Array Jvm.Value) (st : Jvm.State) : (allAtoms ts).before a st = ts.all (fun c => c.before a st) := by
  induction ts with
  | nil => rfl
  | cons c t ih =>
    show (Jvm.Cond.and c (allAtoms t)).before a st = _
    rw [Jvm.Cond.before_and, ih, List.all_cons]
def words1 : List Jvm.Cond := Jvm.Cond.code x code maxLocals ret :: tables_1
/-- a 'code' word, met by the world's own term for the bytes: nothing is compared byte by byte -/
theorem code_word {y : MethodName} {bytes : ByteArray} {mx : Nat} {rt : Option FieldType} {a : Array Value} {s : State} {m : MethodId} {meth : Method} {c : Code} (h1 : s.methodNamed? y = some m) (h2 : s.vm.method? m = some meth) (h3 : meth.code = some c) (h4 : c.code = bytes)
    (h5 : (c.maxLocals == mx && c.exceptionTable.isEmpty && decide (c.maxStack ≤ mostOperands) && decide (meth.sig.returnType = rt) && !meth.locks && decide (parseMethodDescriptor y.desc = some meth.sig)) = true) : (Jvm.Cond.code y bytes mx rt).before a s = true := by
  simp only [Bool.and_eq_true, beq_iff_eq, Bool.not_eq_true', decide_eq_true_eq] at h5
  obtain ⟨⟨⟨⟨⟨g1, g2⟩, g3⟩, g4⟩, g5⟩, g6⟩ := h5
  simp [Cond.before, Cond.holds, Cond.value, h1, h2, h3, h4, g1, g2, g3, g4, g5, g6]
def isCode : Jvm.Cond → Bool
  | .code _ _ _ _ => true
  | _ => false
theorem all_split {L : List Jvm.Cond} {P : Jvm.Cond → Bool} (h1 : L.all (fun c => isCode c || P c) = true) (h2 : ∀ c ∈ L.filter isCode, P c = true) : L.all P = true := by
  refine List.all_eq_true.mpr fun c hc => ?_
  have h := List.all_eq_true.mp h1 c hc
  rcases Bool.eq_false_or_eq_true (isCode c) with hi | hi
  · exact h2 c (List.mem_filter.mpr ⟨hc, hi⟩)
  · simpa [hi] using h
set_option maxRecDepth 65536 in
theorem w_c0 : (Jvm.Cond.code x code maxLocals ret).before args0 about1 = true := code_word (m := ⟨1, 1⟩) (meth := k1m1) (c := k1c1) (by decide +kernel) rfl rfl rfl (by decide +kernel)
set_option maxRecDepth 65536 in
theorem w_c1 : (Jvm.Cond.code ({ cls := "com/example/ratatoskr/ratatoskr/index/IntList", name := "<init>", desc := "()V" } : Jvm.MethodName) prog_10_method_1_code (1 : Nat) (Option.none : Option Jvm.ClassFile.FieldType)).before args0 about1 = true := code_word (m := ⟨2, 0⟩) (meth := k2m0) (c := k2c0) (by decide +kernel) rfl rfl rfl (by decide +kernel)
set_option maxRecDepth 65536 in
theorem w_c2 : (Jvm.Cond.code ({ cls := "java/lang/Object", name := "<init>", desc := "()V" } : Jvm.MethodName) object_method_1_code (1 : Nat) (Option.none : Option Jvm.ClassFile.FieldType)).before args0 about1 = true := code_word (m := ⟨0, 0⟩) (meth := k0m0) (c := k0c0) (by decide +kernel) rfl rfl rfl (by decide +kernel)
set_option maxRecDepth 65536 in
theorem w_c3 : (Jvm.Cond.code ({ cls := "com/example/ratatoskr/ratatoskr/index/IntList", name := "add", desc := "(I)V" } : Jvm.MethodName) prog_10_method_2_code (4 : Nat) (Option.none : Option Jvm.ClassFile.FieldType)).before args0 about1 = true := code_word (m := ⟨2, 1⟩) (meth := k2m1) (c := k2c1) (by decide +kernel) rfl rfl rfl (by decide +kernel)
set_option maxRecDepth 65536 in
theorem w_c4 : (Jvm.Cond.code ({ cls := "com/example/ratatoskr/ratatoskr/index/IntList", name := "set", desc := "(II)V" } : Jvm.MethodName) prog_10_method_4_code (3 : Nat) (Option.none : Option Jvm.ClassFile.FieldType)).before args0 about1 = true := code_word (m := ⟨2, 3⟩) (meth := k2m3) (c := k2c3) (by decide +kernel) rfl rfl rfl (by decide +kernel)
set_option maxRecDepth 65536 in
theorem w_c5 : (Jvm.Cond.code ({ cls := "java/util/Objects", name := "checkIndex", desc := "(II)I" } : Jvm.MethodName) jdk_31_method_17_code (2 : Nat) (Option.some Jvm.ClassFile.FieldType.int)).before args0 about1 = true := code_word (m := ⟨3, 1⟩) (meth := k3m1) (c := k3c1) (by decide +kernel) rfl rfl rfl (by decide +kernel)
set_option maxRecDepth 65536 in
theorem w_c6 : (Jvm.Cond.code ({ cls := "jdk/internal/util/Preconditions", name := "checkIndex", desc := "(IILjava/util/function/BiFunction;)I" } : Jvm.MethodName) jdk_41_method_11_code (3 : Nat) (Option.some Jvm.ClassFile.FieldType.int)).before args0 about1 = true := code_word (m := ⟨4, 1⟩) (meth := k4m1) (c := k4c1) (by decide +kernel) rfl rfl rfl (by decide +kernel)
set_option maxRecDepth 65536 in
theorem w_c7 : (Jvm.Cond.code ({ cls := "com/example/ratatoskr/ratatoskr/index/IntList", name := "size", desc := "()I" } : Jvm.MethodName) prog_10_method_7_code (1 : Nat) (Option.some Jvm.ClassFile.FieldType.int)).before args0 about1 = true := code_word (m := ⟨2, 4⟩) (meth := k2m4) (c := k2c4) (by decide +kernel) rfl rfl rfl (by decide +kernel)
set_option maxRecDepth 65536 in
theorem w_c8 : (Jvm.Cond.code ({ cls := "com/example/ratatoskr/ratatoskr/index/IntList", name := "get", desc := "(I)I" } : Jvm.MethodName) prog_10_method_3_code (2 : Nat) (Option.some Jvm.ClassFile.FieldType.int)).before args0 about1 = true := code_word (m := ⟨2, 2⟩) (meth := k2m2) (c := k2c2) (by decide +kernel) rfl rfl rfl (by decide +kernel)
def codes1 : List Jvm.Cond := [Jvm.Cond.code x code maxLocals ret, Jvm.Cond.code ({ cls := "com/example/ratatoskr/ratatoskr/index/IntList", name := "<init>", desc := "()V" } : Jvm.MethodName) prog_10_method_1_code (1 : Nat) (Option.none : Option Jvm.ClassFile.FieldType), Jvm.Cond.code ({ cls := "java/lang/Object", name := "<init>", desc := "()V" } : Jvm.MethodName) object_method_1_code (1 : Nat) (Option.none : Option Jvm.ClassFile.FieldType), Jvm.Cond.code ({ cls := "com/example/ratatoskr/ratatoskr/index/IntList", name := "add", desc := "(I)V" } : Jvm.MethodName) prog_10_method_2_code (4 : Nat) (Option.none : Option Jvm.ClassFile.FieldType), Jvm.Cond.code ({ cls := "com/example/ratatoskr/ratatoskr/index/IntList", name := "set", desc := "(II)V" } : Jvm.MethodName) prog_10_method_4_code (3 : Nat) (Option.none : Option Jvm.ClassFile.FieldType), Jvm.Cond.code ({ cls := "java/util/Objects", name := "checkIndex", desc := "(II)I" } : Jvm.MethodName) jdk_31_method_17_code (2 : Nat) (Option.some Jvm.ClassFile.FieldType.int), Jvm.Cond.code ({ cls := "jdk/internal/util/Preconditions", name := "checkIndex", desc := "(IILjava/util/function/BiFunction;)I" } : Jvm.MethodName) jdk_41_method_11_code (3 : Nat) (Option.some Jvm.ClassFile.FieldType.int), Jvm.Cond.code ({ cls := "com/example/ratatoskr/ratatoskr/index/IntList", name := "size", desc := "()I" } : Jvm.MethodName) prog_10_method_7_code (1 : Nat) (Option.some Jvm.ClassFile.FieldType.int), Jvm.Cond.code ({ cls := "com/example/ratatoskr/ratatoskr/index/IntList", name := "get", desc := "(I)I" } : Jvm.MethodName) prog_10_method_3_code (2 : Nat) (Option.some Jvm.ClassFile.FieldType.int)]
set_option maxRecDepth 65536 in
theorem codes_eq : words1.filter isCode = codes1 := rfl
theorem w_codes : ∀ c ∈ words1.filter isCode, c.before args0 about1 = true := by
  rw [codes_eq]
  intro c hc
  simp only [codes1, List.mem_cons, List.not_mem_nil, or_false] at hc
  rcases hc with rfl | rfl | rfl | rfl | rfl | rfl | rfl | rfl | rfl
  · exact w_c0
  · exact w_c1
  · exact w_c2
  · exact w_c3
  · exact w_c4
  · exact w_c5
  · exact w_c6
  · exact w_c7
  · exact w_c8
set_option maxRecDepth 65536 in
theorem w_t1 : (words1.take 24).all (fun c => isCode c || c.before args0 about1) = true := by decide +kernel
set_option maxRecDepth 65536 in
theorem w_t2 : (words1.drop 24).all (fun c => isCode c || c.before args0 about1) = true := by decide +kernel
theorem w_tables : (allAtoms (Jvm.Cond.code x code maxLocals ret :: tables_1)).before args0 about1 = true := by
  rw [allAtoms_all]
  show words1.all (fun c => c.before args0 about1) = true
  refine all_split ?_ w_codes
  rw [← List.take_append_drop 24 words1, List.all_append, w_t1, w_t2]
  rfl
set_option maxRecDepth 65536 in
theorem w_case : (Jvm.Cond.and given_1 narrow_1).before args0 about1 = true := by decide +kernel
theorem w_applies : (headSpec (Jvm.Cond.code x code maxLocals ret :: tables_1) room_1).applies x e0.platform about1 = true :=
  (Spec.applies_iff w_frames).mpr ⟨w_running, w_runnable, w_alone, w_named, w_hears, w_ripe, w_room, w_tables⟩
theorem atStart : AtStart classFile x code maxLocals ret World_1 tables_1 room_1 Calls_1 rest_1 Pre_1 launch0 p0 e0 about1 theMethod args0 below0 :=
  ⟨lists_1, trivial, launch0.admits_env _ _ _, launch0.least_env, fairChoices_fair.cas, fairChoices_fair.clock, w_frames, w_args, w_heap, w_applies, trivial, trivial, w_case⟩
end start1
theorem witness_1 : WitnessClaimed_1 := ⟨start1.p0, start1.e0, start1.about1, start1.theMethod, start1.args0, start1.below0, start1.atStart⟩
end Jvm.Pilot.@@N@@
