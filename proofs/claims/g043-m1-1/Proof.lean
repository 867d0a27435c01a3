import JvmDerived
import JvmDerived.Pilot.@@N@@Statement
import JvmDerived.Pilot.@@N@@Code
set_option linter.unusedVariables false
set_option linter.unusedSimpArgs false
namespace Jvm.Pilot.@@N@@
open Jvm Jvm.ClassFile Sem Op Lib Jvm.Free Jvm.Stand Jvm.LawKit Jvm.RoadKit Bundle Jvm.Pilot.@@N@@.Jvm.D
/-! THE WALK, SAID FORWARD: `G w Q h k n pc Ls st` says: from every point of the walk `w` whose heap is h, with k cells and n slots made, standing at pc with the locals Ls and the stack st, the run ends in a return that meets Q. One law a step carries G from the next point back to this one. -/
abbrev Wk := Program × Launch × Env × Room × State × MethodId × Array Value × List Frame × Method × Code × Nat
abbrev Wk.p (w : Wk) : Program := w.1
abbrev Wk.l (w : Wk) : Launch := w.2.1
abbrev Wk.e (w : Wk) : Env := w.2.2.1
abbrev Wk.R (w : Wk) : Room := w.2.2.2.1
abbrev Wk.s (w : Wk) : State := w.2.2.2.2.1
abbrev Wk.m (w : Wk) : MethodId := w.2.2.2.2.2.1
abbrev Wk.args (w : Wk) : Array Value := w.2.2.2.2.2.2.1
abbrev Wk.below (w : Wk) : List Frame := w.2.2.2.2.2.2.2.1
abbrev Wk.meth (w : Wk) : Method := w.2.2.2.2.2.2.2.2.1
abbrev Wk.c (w : Wk) : Code := w.2.2.2.2.2.2.2.2.2.1
abbrev Wk.n0 (w : Wk) : Nat := w.2.2.2.2.2.2.2.2.2.2
def Cx (w : Wk) (l : Launch) (Z : State) (own : String) (bytes : ByteArray) (mx : Nat) (rt : Option FieldType) (nm : String) (rm : Room) (n0 : Nat) : Prop :=
  w.l = l ∧ w.p.tables.exec = Jvm.exec ∧ Z.Warmed39 w.s.vm ∧ w.c.code = bytes ∧ w.c.maxLocals = mx ∧ w.s.vm.findClass own = some w.m.cls ∧ w.meth.sig.returnType = rt ∧ w.meth.locks = false ∧ w.meth.name = nm ∧ w.R = rm ∧ w.n0 = n0
def Ends (w : Wk) (Q : Option Value → Heap → Prop) (A : State) : Prop :=
  ∃ s₂ o, Steps w.p.tables w.e w.below A s₂ ∧ s₂.status = .running ∧ Ended s₂ w.below o ∧ ∃ v L, o = .returned v ∧ (Q v s₂.heap ∧ Fr w.n0 L) ∧ FrameEnd w.s o s₂ L w.R.cells w.R.slots
def G (w : Wk) (Q : Option Value → Heap → Prop) (h : Heap) (k n pc : Nat) (Ls : Array Slot) (st : List Value) : Prop :=
  ∀ (T : State) (locs : List Loc), Stand w.p w.l w.e w.R w.s w.m w.args w.below w.meth w.c T locs k n → T.heap = h → Fr w.n0 locs → Ends w Q (T.setTop (mkF w.m pc Ls st))
def Con (l : Launch) (Z : State) (y : MethodName) (bytes : ByteArray) (mx : Nat) (rt : Option FieldType) (rm : Room) (as : Array Value) (h : Heap) (n0 : Nat) (Q : Option Value → Heap → Prop) : Prop :=
  ∀ ws, MetFree l y (head1 (Jvm.Cond.code y bytes mx rt :: ws) rm) (fun a U => a = as ∧ Z.Warmed39 U.vm ∧ U.heap = h) (fun _ _ _ _ _ => True) (fun _ U o U' => ∃ v L, o = .returned v ∧ (Q v U'.heap ∧ Fr n0 L) ∧ FrameEnd U o U' L rm.cells rm.slots)
def psh (v : Option Value) (st : List Value) : List Value := match v with | none => st | some x => x :: st
theorem psh_eq (v : Option Value) (st : List Value) : v.toList ++ st = psh v st := by cases v <;> rfl
section Gs
variable {w : Wk} {l : Launch} {Z : State} {own : String} {bytes : ByteArray} {mx : Nat} {rt : Option FieldType} {nm : String} {rm : Room} {n0 : Nat} {Q : Option Value → Heap → Prop} {h : Heap} {k n pc pc' : Nat} {Ls Ls' : Array Slot} {st rest : List Value} {a0 : Array Value} {t : FieldType} {k' n' : Nat}
theorem Con.mk {y : MethodName} {as : Array Value} (hp : plainFor y = true) (hef : ∀ m, entryFrame m as mx = mkF m 0 Ls []) (body : ∀ w : Wk, Cx w l Z y.cls bytes mx rt y.name rm n0 → G w Q h 0 0 0 Ls []) : Con l Z y bytes mx rt rm as h n0 Q := by
  intro ws
  refine MetFree.of_bodySF hp hisR ?_
  intro p e s m args below meth c s₁ Bd hml0 hP hK
  obtain ⟨rfl, hZ, hh⟩ := hP
  have X0 : Stand p l e rm s m args below meth c s₁ [] 0 0 := Stand.of_body Bd
  have e0 : s₁.heap = h := by rw [← hh, Bd.state]; rfl
  obtain ⟨s₂, o, h1, h2, h3, h4⟩ := body (p, l, e, rm, s, m, args, below, meth, c, n0) ⟨rfl, Bd.exec, hZ, Bd.bytes, hml0, findClass_of_methodNamed Bd.named, Bd.returns, Bd.notSynchronized, (name_of_methodNamed Bd.named Bd.method).1, rfl, rfl⟩ s₁ [] X0 e0 (Fr.nil n0)
  exact ⟨s₂, o, castTop (hef m) h1, h2, h3, h4⟩
theorem Cx.ex (C : Cx w l Z own bytes mx rt nm rm n0) : w.p.tables.exec = Jvm.exec := C.2.1
theorem Cx.hZ (C : Cx w l Z own bytes mx rt nm rm n0) : Z.Warmed39 w.s.vm := C.2.2.1
theorem Cx.dec (C : Cx w l Z own bytes mx rt nm rm n0) {r : Except DecodeError (Instr × Nat)} (hd : decode bytes pc = r) : decode w.c.code pc = r := hb C.2.2.2.1 hd
theorem Cx.ow (C : Cx w l Z own bytes mx rt nm rm n0) : w.s.vm.findClass own = some w.m.cls := C.2.2.2.2.2.1
theorem Cx.ml (C : Cx w l Z own bytes mx rt nm rm n0) : w.c.maxLocals = mx := C.2.2.2.2.1
theorem Cx.ret (C : Cx w l Z own bytes mx rt nm rm n0) : w.meth.sig.returnType = rt := C.2.2.2.2.2.2.1
theorem Cx.lk (C : Cx w l Z own bytes mx rt nm rm n0) : w.meth.locks = false := C.2.2.2.2.2.2.2.1
theorem Cx.mn (C : Cx w l Z own bytes mx rt nm rm n0) : w.meth.name = nm := C.2.2.2.2.2.2.2.2.1
theorem Cx.ro (C : Cx w l Z own bytes mx rt nm rm n0) : w.R = rm := C.2.2.2.2.2.2.2.2.2.1
theorem Cx.nn (C : Cx w l Z own bytes mx rt nm rm n0) : w.n0 = n0 := C.2.2.2.2.2.2.2.2.2.2
theorem G.adv (st' : ∀ T locs, Stand w.p w.l w.e w.R w.s w.m w.args w.below w.meth w.c T locs k n → T.heap = h → ∀ t, Steps w.p.tables w.e w.below (T.setTop (mkF w.m pc' Ls' rest)) t → Steps w.p.tables w.e w.below (T.setTop (mkF w.m pc Ls st)) t) (g : G w Q h k n pc' Ls' rest) : G w Q h k n pc Ls st :=
  fun T locs X eT N => let ⟨s₂, o, h1, h2⟩ := g T locs X eT N; ⟨s₂, o, st' T locs X eT _ h1, h2⟩
theorem G.to {T T' : State} {locs' : List Loc} {h' : Heap} {k' n' : Nat} (X' : Stand w.p w.l w.e w.R w.s w.m w.args w.below w.meth w.c T' locs' k' n') (eT : T'.heap = h') (N : Fr w.n0 locs') (s' : ∀ t, Steps w.p.tables w.e w.below (T'.setTop (mkF w.m pc' Ls' rest)) t → Steps w.p.tables w.e w.below (T.setTop (mkF w.m pc Ls st)) t) (g : G w Q h' k' n' pc' Ls' rest) : Ends w Q (T.setTop (mkF w.m pc Ls st)) :=
  let ⟨s₂, o, h1, h2⟩ := g T' locs' X' eT N; ⟨s₂, o, s' _ h1, h2⟩
theorem G.more (hk : k ≤ k') (hn : n ≤ n') (g : G w Q h k' n' pc Ls st) : G w Q h k n pc Ls st := fun T locs X eT N => g T locs (X.more hk hn) eT N
/-! plain steps -/
theorem g_aloadN (C : Cx w l Z own bytes mx rt nm rm n0) {i : Fin 4} {v : Value} (hd : decode bytes pc = .ok (.aload_n i, 1)) (hl : Ls[i.val]? = some (.val v)) (hv : v.isRef = true) (hp : pc + 1 = pc') (g : G w Q h k n pc' Ls (v :: st)) : G w Q h k n pc Ls st := by
  subst hp; exact g.adv fun T locs X _ t r => XS.aloadN X.here C.ex rfl (C.dec hd) hl hv r
theorem g_aload (C : Cx w l Z own bytes mx rt nm rm n0) {i : Nat} {v : Value} (hd : decode bytes pc = .ok (.aload i, 2)) (hl : Ls[i]? = some (.val v)) (hv : v.isRef = true) (hp : pc + 2 = pc') (g : G w Q h k n pc' Ls (v :: st)) : G w Q h k n pc Ls st := by
  subst hp; exact g.adv fun T locs X _ t r => XS.aload X.here C.ex rfl (C.dec hd) hl hv r
theorem g_iloadN (C : Cx w l Z own bytes mx rt nm rm n0) {i : Fin 4} {v : Int32} (hd : decode bytes pc = .ok (.iload_n i, 1)) (hl : Ls[i.val]? = some (.val (.int v))) (hp : pc + 1 = pc') (g : G w Q h k n pc' Ls (.int v :: st)) : G w Q h k n pc Ls st := by
  subst hp; exact g.adv fun T locs X _ t r => XS.iloadN X.here C.ex rfl (C.dec hd) hl r
theorem g_iload (C : Cx w l Z own bytes mx rt nm rm n0) {i : Nat} {v : Int32} (hd : decode bytes pc = .ok (.iload i, 2)) (hl : Ls[i]? = some (.val (.int v))) (hp : pc + 2 = pc') (g : G w Q h k n pc' Ls (.int v :: st)) : G w Q h k n pc Ls st := by
  subst hp; exact g.adv fun T locs X _ t r => XS.iload X.here C.ex rfl (C.dec hd) hl r
theorem g_lloadN (C : Cx w l Z own bytes mx rt nm rm n0) {i : Fin 4} {v : Int64} (hd : decode bytes pc = .ok (.lload_n i, 1)) (hl : Ls[i.val]? = some (.val (.long v))) (hp : pc + 1 = pc') (g : G w Q h k n pc' Ls (.long v :: st)) : G w Q h k n pc Ls st := by
  subst hp; exact g.adv fun T locs X _ t r => XS.lloadN X.here C.ex rfl (C.dec hd) hl r
theorem g_lload (C : Cx w l Z own bytes mx rt nm rm n0) {i : Nat} {v : Int64} (hd : decode bytes pc = .ok (.lload i, 2)) (hl : Ls[i]? = some (.val (.long v))) (hp : pc + 2 = pc') (g : G w Q h k n pc' Ls (.long v :: st)) : G w Q h k n pc Ls st := by
  subst hp; exact g.adv fun T locs X _ t r => XS.lload X.here C.ex rfl (C.dec hd) hl r
theorem g_istoreN (C : Cx w l Z own bytes mx rt nm rm n0) {i : Fin 4} {x : Int32} (hd : decode bytes pc = .ok (.istore_n i, 1)) (hs : st = .int x :: rest) (hl : storeLocals Ls i.val (.int x) = some Ls') (hp : pc + 1 = pc') (g : G w Q h k n pc' Ls' rest) : G w Q h k n pc Ls st := by
  subst hp; exact g.adv fun T locs X _ t r => XS.istoreN X.here C.ex rfl (C.dec hd) hs hl r
theorem g_istore (C : Cx w l Z own bytes mx rt nm rm n0) {i : Nat} {x : Int32} (hd : decode bytes pc = .ok (.istore i, 2)) (hs : st = .int x :: rest) (hl : storeLocals Ls i (.int x) = some Ls') (hp : pc + 2 = pc') (g : G w Q h k n pc' Ls' rest) : G w Q h k n pc Ls st := by
  subst hp; exact g.adv fun T locs X _ t r => XS.istore X.here C.ex rfl (C.dec hd) hs hl r
theorem g_lstoreN (C : Cx w l Z own bytes mx rt nm rm n0) {i : Fin 4} {x : Int64} (hd : decode bytes pc = .ok (.lstore_n i, 1)) (hs : st = .long x :: rest) (hl : storeLocals Ls i.val (.long x) = some Ls') (hp : pc + 1 = pc') (g : G w Q h k n pc' Ls' rest) : G w Q h k n pc Ls st := by
  subst hp; exact g.adv fun T locs X _ t r => XS.lstoreN X.here C.ex rfl (C.dec hd) hs hl r
theorem g_lstore (C : Cx w l Z own bytes mx rt nm rm n0) {i : Nat} {x : Int64} (hd : decode bytes pc = .ok (.lstore i, 2)) (hs : st = .long x :: rest) (hl : storeLocals Ls i (.long x) = some Ls') (hp : pc + 2 = pc') (g : G w Q h k n pc' Ls' rest) : G w Q h k n pc Ls st := by
  subst hp; exact g.adv fun T locs X _ t r => XS.lstore X.here C.ex rfl (C.dec hd) hs hl r
theorem g_astoreN (C : Cx w l Z own bytes mx rt nm rm n0) {i : Fin 4} {x : Value} (hd : decode bytes pc = .ok (.astore_n i, 1)) (hs : st = x :: rest) (hv : x.isRef = true) (hl : storeLocals Ls i.val x = some Ls') (hp : pc + 1 = pc') (g : G w Q h k n pc' Ls' rest) : G w Q h k n pc Ls st := by
  subst hp; exact g.adv fun T locs X _ t r => XS.astoreN X.here C.ex rfl (C.dec hd) hs hv hl r
theorem g_astore (C : Cx w l Z own bytes mx rt nm rm n0) {i : Nat} {x : Value} (hd : decode bytes pc = .ok (.astore i, 2)) (hs : st = x :: rest) (hv : x.isRef = true) (hl : storeLocals Ls i x = some Ls') (hp : pc + 2 = pc') (g : G w Q h k n pc' Ls' rest) : G w Q h k n pc Ls st := by
  subst hp; exact g.adv fun T locs X _ t r => XS.astore X.here C.ex rfl (C.dec hd) hs hv hl r
theorem g_iinc (C : Cx w l Z own bytes mx rt nm rm n0) {i : Nat} {cst : Int} {x : Int32} (hd : decode bytes pc = .ok (.iinc i cst, 3)) (hl : Ls[i]? = some (.val (.int x))) (hl' : storeLocals Ls i (.int (x + Int32.ofInt cst)) = some Ls') (hp : pc + 3 = pc') (g : G w Q h k n pc' Ls' st) : G w Q h k n pc Ls st := by
  subst hp; exact g.adv fun T locs X _ t r => XS.iinc X.here C.ex rfl (C.dec hd) hl hl' r
theorem g_iconst (C : Cx w l Z own bytes mx rt nm rm n0) {i : Int} {v : Int32} (hd : decode bytes pc = .ok (.iconst i, 1)) (hv : Int32.ofInt i = v) (hp : pc + 1 = pc') (g : G w Q h k n pc' Ls (.int v :: st)) : G w Q h k n pc Ls st := by
  subst hp hv; exact g.adv fun T locs X _ t r => XS.iconst X.here C.ex rfl (C.dec hd) r
theorem g_bipush (C : Cx w l Z own bytes mx rt nm rm n0) {i : Int} {v : Int32} (hd : decode bytes pc = .ok (.bipush i, 2)) (hv : (Int8.ofInt i).toInt32 = v) (hp : pc + 2 = pc') (g : G w Q h k n pc' Ls (.int v :: st)) : G w Q h k n pc Ls st := by
  subst hp hv; exact g.adv fun T locs X _ t r => XS.bipush X.here C.ex rfl (C.dec hd) r
theorem g_sipush (C : Cx w l Z own bytes mx rt nm rm n0) {i : Int} {v : Int32} (hd : decode bytes pc = .ok (.sipush i, 3)) (hv : (Int16.ofInt i).toInt32 = v) (hp : pc + 3 = pc') (g : G w Q h k n pc' Ls (.int v :: st)) : G w Q h k n pc Ls st := by
  subst hp hv; exact g.adv fun T locs X _ t r => XS.sipush X.here C.ex rfl (C.dec hd) r
theorem g_lconst (C : Cx w l Z own bytes mx rt nm rm n0) {i : Fin 2} {v : Int64} (hd : decode bytes pc = .ok (.lconst i, 1)) (hv : Int64.ofNat i.val = v) (hp : pc + 1 = pc') (g : G w Q h k n pc' Ls (.long v :: st)) : G w Q h k n pc Ls st := by
  subst hp hv; exact g.adv fun T locs X _ t r => XS.lconst X.here C.ex rfl (C.dec hd) r
theorem g_aconstNull (C : Cx w l Z own bytes mx rt nm rm n0) (hd : decode bytes pc = .ok (.aconst_null, 1)) (hp : pc + 1 = pc') (g : G w Q h k n pc' Ls (.null :: st)) : G w Q h k n pc Ls st := by
  subst hp; exact g.adv fun T locs X _ t r => XS.aconstNull X.here C.ex rfl (C.dec hd) r
theorem g_ldcInt (C : Cx w l Z own bytes mx rt nm rm n0) {i : Nat} {v : Int32} (hw : (Jvm.Cond.constant own i v).before a0 Z = true) (hd : decode bytes pc = .ok (.ldc i, 2)) (hp : pc + 2 = pc') (g : G w Q h k n pc' Ls (.int v :: st)) : G w Q h k n pc Ls st := by
  subst hp; exact g.adv fun T locs X _ t r => X.ldcInt C.ex C.ow (mvT C.hZ hw) (g := mkF w.m pc Ls st) rfl (C.dec hd) t r
theorem g_ldc2Long (C : Cx w l Z own bytes mx rt nm rm n0) {i : Nat} {v : Int64} (hw : (Jvm.Cond.constantLong own i v).before a0 Z = true) (hd : decode bytes pc = .ok (.ldc2_w i, 3)) (hp : pc + 3 = pc') (g : G w Q h k n pc' Ls (.long v :: st)) : G w Q h k n pc Ls st := by
  subst hp; exact g.adv fun T locs X _ t r => X.ldc2Long C.ex C.ow (mvT C.hZ hw) (g := mkF w.m pc Ls st) rfl (C.dec hd) t r
theorem g_iadd (C : Cx w l Z own bytes mx rt nm rm n0) {x y : Int32} (hd : decode bytes pc = .ok (.iadd, 1)) (hs : st = .int y :: .int x :: rest) (hp : pc + 1 = pc') (g : G w Q h k n pc' Ls (.int (x + y) :: rest)) : G w Q h k n pc Ls st := by
  subst hp; exact g.adv fun T locs X _ t r => XS.iadd X.here C.ex rfl (C.dec hd) hs r
theorem g_isub (C : Cx w l Z own bytes mx rt nm rm n0) {x y : Int32} (hd : decode bytes pc = .ok (.isub, 1)) (hs : st = .int y :: .int x :: rest) (hp : pc + 1 = pc') (g : G w Q h k n pc' Ls (.int (x - y) :: rest)) : G w Q h k n pc Ls st := by
  subst hp; exact g.adv fun T locs X _ t r => XS.isub X.here C.ex rfl (C.dec hd) hs r
theorem g_imul (C : Cx w l Z own bytes mx rt nm rm n0) {x y : Int32} (hd : decode bytes pc = .ok (.imul, 1)) (hs : st = .int y :: .int x :: rest) (hp : pc + 1 = pc') (g : G w Q h k n pc' Ls (.int (x * y) :: rest)) : G w Q h k n pc Ls st := by
  subst hp; exact g.adv fun T locs X _ t r => XS.imul X.here C.ex rfl (C.dec hd) hs r
theorem g_iand (C : Cx w l Z own bytes mx rt nm rm n0) {x y : Int32} (hd : decode bytes pc = .ok (.iand, 1)) (hs : st = .int y :: .int x :: rest) (hp : pc + 1 = pc') (g : G w Q h k n pc' Ls (.int (x &&& y) :: rest)) : G w Q h k n pc Ls st := by
  subst hp; exact g.adv fun T locs X _ t r => XS.iand X.here C.ex rfl (C.dec hd) hs r
theorem g_ior (C : Cx w l Z own bytes mx rt nm rm n0) {x y : Int32} (hd : decode bytes pc = .ok (.ior, 1)) (hs : st = .int y :: .int x :: rest) (hp : pc + 1 = pc') (g : G w Q h k n pc' Ls (.int (x ||| y) :: rest)) : G w Q h k n pc Ls st := by
  subst hp; exact g.adv fun T locs X _ t r => XS.ior X.here C.ex rfl (C.dec hd) hs r
theorem g_ixor (C : Cx w l Z own bytes mx rt nm rm n0) {x y : Int32} (hd : decode bytes pc = .ok (.ixor, 1)) (hs : st = .int y :: .int x :: rest) (hp : pc + 1 = pc') (g : G w Q h k n pc' Ls (.int (x ^^^ y) :: rest)) : G w Q h k n pc Ls st := by
  subst hp; exact g.adv fun T locs X _ t r => XS.ixor X.here C.ex rfl (C.dec hd) hs r
theorem g_ladd (C : Cx w l Z own bytes mx rt nm rm n0) {x y : Int64} (hd : decode bytes pc = .ok (.ladd, 1)) (hs : st = .long y :: .long x :: rest) (hp : pc + 1 = pc') (g : G w Q h k n pc' Ls (.long (x + y) :: rest)) : G w Q h k n pc Ls st := by
  subst hp; exact g.adv fun T locs X _ t r => XS.ladd X.here C.ex rfl (C.dec hd) hs r
theorem g_lsub (C : Cx w l Z own bytes mx rt nm rm n0) {x y : Int64} (hd : decode bytes pc = .ok (.lsub, 1)) (hs : st = .long y :: .long x :: rest) (hp : pc + 1 = pc') (g : G w Q h k n pc' Ls (.long (x - y) :: rest)) : G w Q h k n pc Ls st := by
  subst hp; exact g.adv fun T locs X _ t r => XS.lsub X.here C.ex rfl (C.dec hd) hs r
theorem g_lmul (C : Cx w l Z own bytes mx rt nm rm n0) {x y : Int64} (hd : decode bytes pc = .ok (.lmul, 1)) (hs : st = .long y :: .long x :: rest) (hp : pc + 1 = pc') (g : G w Q h k n pc' Ls (.long (x * y) :: rest)) : G w Q h k n pc Ls st := by
  subst hp; exact g.adv fun T locs X _ t r => XS.lmul X.here C.ex rfl (C.dec hd) hs r
theorem g_land (C : Cx w l Z own bytes mx rt nm rm n0) {x y : Int64} (hd : decode bytes pc = .ok (.land, 1)) (hs : st = .long y :: .long x :: rest) (hp : pc + 1 = pc') (g : G w Q h k n pc' Ls (.long (x &&& y) :: rest)) : G w Q h k n pc Ls st := by
  subst hp; exact g.adv fun T locs X _ t r => XS.land X.here C.ex rfl (C.dec hd) hs r
theorem g_lor (C : Cx w l Z own bytes mx rt nm rm n0) {x y : Int64} (hd : decode bytes pc = .ok (.lor, 1)) (hs : st = .long y :: .long x :: rest) (hp : pc + 1 = pc') (g : G w Q h k n pc' Ls (.long (x ||| y) :: rest)) : G w Q h k n pc Ls st := by
  subst hp; exact g.adv fun T locs X _ t r => XS.lor X.here C.ex rfl (C.dec hd) hs r
theorem g_lxor (C : Cx w l Z own bytes mx rt nm rm n0) {x y : Int64} (hd : decode bytes pc = .ok (.lxor, 1)) (hs : st = .long y :: .long x :: rest) (hp : pc + 1 = pc') (g : G w Q h k n pc' Ls (.long (x ^^^ y) :: rest)) : G w Q h k n pc Ls st := by
  subst hp; exact g.adv fun T locs X _ t r => XS.lxor X.here C.ex rfl (C.dec hd) hs r
theorem g_ishl (C : Cx w l Z own bytes mx rt nm rm n0) {x y : Int32} (hd : decode bytes pc = .ok (.ishl, 1)) (hs : st = .int y :: .int x :: rest) (hp : pc + 1 = pc') (g : G w Q h k n pc' Ls (.int (x <<< (y &&& 31)) :: rest)) : G w Q h k n pc Ls st := by
  subst hp; exact g.adv fun T locs X _ t r => XS.ishl X.here C.ex rfl (C.dec hd) hs r
theorem g_ishr (C : Cx w l Z own bytes mx rt nm rm n0) {x y : Int32} (hd : decode bytes pc = .ok (.ishr, 1)) (hs : st = .int y :: .int x :: rest) (hp : pc + 1 = pc') (g : G w Q h k n pc' Ls (.int (x >>> (y &&& 31)) :: rest)) : G w Q h k n pc Ls st := by
  subst hp; exact g.adv fun T locs X _ t r => XS.ishr X.here C.ex rfl (C.dec hd) hs r
theorem g_iushr (C : Cx w l Z own bytes mx rt nm rm n0) {x y : Int32} (hd : decode bytes pc = .ok (.iushr, 1)) (hs : st = .int y :: .int x :: rest) (hp : pc + 1 = pc') (g : G w Q h k n pc' Ls (.int ((x.toUInt32 >>> (y &&& 31).toUInt32).toInt32) :: rest)) : G w Q h k n pc Ls st := by
  subst hp; exact g.adv fun T locs X _ t r => XS.iushr X.here C.ex rfl (C.dec hd) hs r
theorem g_ineg (C : Cx w l Z own bytes mx rt nm rm n0) {x : Int32} (hd : decode bytes pc = .ok (.ineg, 1)) (hs : st = .int x :: rest) (hp : pc + 1 = pc') (g : G w Q h k n pc' Ls (.int (-x) :: rest)) : G w Q h k n pc Ls st := by
  subst hp; exact g.adv fun T locs X _ t r => XS.ineg X.here C.ex rfl (C.dec hd) hs r
theorem g_lneg (C : Cx w l Z own bytes mx rt nm rm n0) {x : Int64} (hd : decode bytes pc = .ok (.lneg, 1)) (hs : st = .long x :: rest) (hp : pc + 1 = pc') (g : G w Q h k n pc' Ls (.long (-x) :: rest)) : G w Q h k n pc Ls st := by
  subst hp; exact g.adv fun T locs X _ t r => XS.lneg X.here C.ex rfl (C.dec hd) hs r
theorem g_i2l (C : Cx w l Z own bytes mx rt nm rm n0) {x : Int32} (hd : decode bytes pc = .ok (.i2l, 1)) (hs : st = .int x :: rest) (hp : pc + 1 = pc') (g : G w Q h k n pc' Ls (.long x.toInt64 :: rest)) : G w Q h k n pc Ls st := by
  subst hp; exact g.adv fun T locs X _ t r => XS.i2l X.here C.ex rfl (C.dec hd) hs r
theorem g_l2i (C : Cx w l Z own bytes mx rt nm rm n0) {x : Int64} (hd : decode bytes pc = .ok (.l2i, 1)) (hs : st = .long x :: rest) (hp : pc + 1 = pc') (g : G w Q h k n pc' Ls (.int x.toInt32 :: rest)) : G w Q h k n pc Ls st := by
  subst hp; exact g.adv fun T locs X _ t r => XS.l2i X.here C.ex rfl (C.dec hd) hs r
theorem g_i2b (C : Cx w l Z own bytes mx rt nm rm n0) {x : Int32} (hd : decode bytes pc = .ok (.i2b, 1)) (hs : st = .int x :: rest) (hp : pc + 1 = pc') (g : G w Q h k n pc' Ls (.int x.toInt8.toInt32 :: rest)) : G w Q h k n pc Ls st := by
  subst hp; exact g.adv fun T locs X _ t r => XS.i2b X.here C.ex rfl (C.dec hd) hs r
theorem g_i2s (C : Cx w l Z own bytes mx rt nm rm n0) {x : Int32} (hd : decode bytes pc = .ok (.i2s, 1)) (hs : st = .int x :: rest) (hp : pc + 1 = pc') (g : G w Q h k n pc' Ls (.int x.toInt16.toInt32 :: rest)) : G w Q h k n pc Ls st := by
  subst hp; exact g.adv fun T locs X _ t r => XS.i2s X.here C.ex rfl (C.dec hd) hs r
theorem g_i2c (C : Cx w l Z own bytes mx rt nm rm n0) {x : Int32} (hd : decode bytes pc = .ok (.i2c, 1)) (hs : st = .int x :: rest) (hp : pc + 1 = pc') (g : G w Q h k n pc' Ls (.int x.toUInt32.toUInt16.toUInt32.toInt32 :: rest)) : G w Q h k n pc Ls st := by
  subst hp; exact g.adv fun T locs X _ t r => XS.i2c X.here C.ex rfl (C.dec hd) hs r
theorem g_irem (C : Cx w l Z own bytes mx rt nm rm n0) {x y : Int32} (hd : decode bytes pc = .ok (.irem, 1)) (hs : st = .int y :: .int x :: rest) (hy : y ≠ 0) (hp : pc + 1 = pc') (g : G w Q h k n pc' Ls (.int (x % y) :: rest)) : G w Q h k n pc Ls st := by
  subst hp; exact g.adv fun T locs X _ t r => iremM (g := mkF w.m pc Ls st) X C.ex rfl (C.dec hd) hs hy r
theorem g_idiv (C : Cx w l Z own bytes mx rt nm rm n0) {x y : Int32} (hd : decode bytes pc = .ok (.idiv, 1)) (hs : st = .int y :: .int x :: rest) (hy : y ≠ 0) (hp : pc + 1 = pc') (g : G w Q h k n pc' Ls (.int (x / y) :: rest)) : G w Q h k n pc Ls st := by
  subst hp; exact g.adv fun T locs X _ t r => XS.idiv X.here C.ex rfl (C.dec hd) hs hy r
theorem g_ldiv (C : Cx w l Z own bytes mx rt nm rm n0) {x y : Int64} (hd : decode bytes pc = .ok (.ldiv, 1)) (hs : st = .long y :: .long x :: rest) (hy : y ≠ 0) (hp : pc + 1 = pc') (g : G w Q h k n pc' Ls (.long (x / y) :: rest)) : G w Q h k n pc Ls st := by
  subst hp; exact g.adv fun T locs X _ t r => XS.ldiv X.here C.ex rfl (C.dec hd) hs hy r
theorem g_lrem (C : Cx w l Z own bytes mx rt nm rm n0) {x y : Int64} (hd : decode bytes pc = .ok (.lrem, 1)) (hs : st = .long y :: .long x :: rest) (hy : y ≠ 0) (hp : pc + 1 = pc') (g : G w Q h k n pc' Ls (.long (x - (x / y) * y) :: rest)) : G w Q h k n pc Ls st := by
  subst hp; exact g.adv fun T locs X _ t r => XS.lrem X.here C.ex rfl (C.dec hd) hs hy r
theorem g_lcmp (C : Cx w l Z own bytes mx rt nm rm n0) {x y : Int64} (hd : decode bytes pc = .ok (.lcmp, 1)) (hs : st = .long y :: .long x :: rest) (hp : pc + 1 = pc') (g : G w Q h k n pc' Ls (.int (lcmpW x y) :: rest)) : G w Q h k n pc Ls st := by
  subst hp; exact g.adv fun T locs X _ t r => XS.lcmp X.here C.ex rfl (C.dec hd) hs r
theorem g_dup (C : Cx w l Z own bytes mx rt nm rm n0) {x : Value} (hd : decode bytes pc = .ok (.dup, 1)) (hs : st = x :: rest) (hc : x.category = 1) (hp : pc + 1 = pc') (g : G w Q h k n pc' Ls (x :: x :: rest)) : G w Q h k n pc Ls st := by
  subst hp; exact g.adv fun T locs X _ t r => XS.dup X.here C.ex rfl (C.dec hd) hs hc r
theorem g_pop (C : Cx w l Z own bytes mx rt nm rm n0) {x : Value} (hd : decode bytes pc = .ok (.pop, 1)) (hs : st = x :: rest) (hc : x.category = 1) (hp : pc + 1 = pc') (g : G w Q h k n pc' Ls rest) : G w Q h k n pc Ls st := by
  subst hp; exact g.adv fun T locs X _ t r => XS.pop X.here C.ex rfl (C.dec hd) hs hc r
theorem g_dup_x1 (C : Cx w l Z own bytes mx rt nm rm n0) {x y : Value} (hd : decode bytes pc = .ok (.dup_x1, 1)) (hs : st = x :: y :: rest) (hc : x.category = 1) (hc' : y.category = 1) (hp : pc + 1 = pc') (g : G w Q h k n pc' Ls (x :: y :: x :: rest)) : G w Q h k n pc Ls st := by
  subst hp; exact g.adv fun T locs X _ t r => XS.dupX1 X.here C.ex rfl (C.dec hd) hs hc hc' r
theorem g_dup2 (C : Cx w l Z own bytes mx rt nm rm n0) {x y : Value} (hd : decode bytes pc = .ok (.dup2, 1)) (hs : st = x :: y :: rest) (hc : x.category = 1) (hc' : y.category = 1) (hp : pc + 1 = pc') (g : G w Q h k n pc' Ls (x :: y :: x :: y :: rest)) : G w Q h k n pc Ls st := by
  subst hp; exact g.adv fun T locs X _ t r => XT.dup2 X.here C.ex rfl (C.dec hd) hs hc hc' r
theorem g_dup2L (C : Cx w l Z own bytes mx rt nm rm n0) {x : Int64} (hd : decode bytes pc = .ok (.dup2, 1)) (hs : st = .long x :: rest) (hp : pc + 1 = pc') (g : G w Q h k n pc' Ls (.long x :: .long x :: rest)) : G w Q h k n pc Ls st := by
  subst hp; exact g.adv fun T locs X _ t r => XT.dup2L X.here C.ex rfl (C.dec hd) hs r
theorem g_pop2L (C : Cx w l Z own bytes mx rt nm rm n0) {x : Int64} (hd : decode bytes pc = .ok (.pop2, 1)) (hs : st = .long x :: rest) (hp : pc + 1 = pc') (g : G w Q h k n pc' Ls rest) : G w Q h k n pc Ls st := by
  subst hp hs; exact g.adv fun T locs X _ t r => by
    have hx := C.ex
    have hd' := C.dec hd
    show Steps w.p.tables w.e w.below (T.setTop { method := w.m, pc := pc, locals := Ls, stack := _ :: rest, locked := none }) _
    jvm_step X.here [X.here.top, hx, hd', Value.category]
    exact r
theorem g_dup2_x2L (C : Cx w l Z own bytes mx rt nm rm n0) {x : Int64} {y : Int32} {z : Addr} (hd : decode bytes pc = .ok (.dup2_x2, 1)) (hs : st = .long x :: .int y :: .ref z :: rest) (hp : pc + 1 = pc') (g : G w Q h k n pc' Ls (.long x :: .int y :: .ref z :: .long x :: rest)) : G w Q h k n pc Ls st := by
  subst hp hs; exact g.adv fun T locs X _ t r => by
    have hx := C.ex
    have hd' := C.dec hd
    show Steps w.p.tables w.e w.below (T.setTop { method := w.m, pc := pc, locals := Ls, stack := _ :: _ :: _ :: rest, locked := none }) _
    jvm_step X.here [X.here.top, hx, hd', Value.category]
    exact r
theorem g_goto (C : Cx w l Z own bytes mx rt nm rm n0) {o : Int} (hd : decode bytes pc = .ok (.goto o, 3)) (ho : 0 ≤ (pc : Int) + o) (hp : ((pc : Int) + o).toNat = pc') (g : G w Q h k n pc' Ls st) : G w Q h k n pc Ls st :=
  g.adv fun T locs X _ t r => XS.goto X.here C.ex rfl (pc0 := pc) rfl (C.dec hd) ho hp r
theorem g_ifY (C : Cx w l Z own bytes mx rt nm rm n0) {cd : ClassFile.Cond} {o : Int} {x : Int32} (hd : decode bytes pc = .ok (.ifCond cd o, 3)) (hs : st = .int x :: rest) (hc : if_icmp.holds cd x 0 = true) (ho : 0 ≤ (pc : Int) + o) (hp : ((pc : Int) + o).toNat = pc') (g : G w Q h k n pc' Ls rest) : G w Q h k n pc Ls st :=
  g.adv fun T locs X _ t r => XS.ifYes X.here C.ex rfl (pc0 := pc) rfl (C.dec hd) hs ((if0 _ _).trans hc) ho hp r
theorem g_ifN (C : Cx w l Z own bytes mx rt nm rm n0) {cd : ClassFile.Cond} {o : Int} {x : Int32} (hd : decode bytes pc = .ok (.ifCond cd o, 3)) (hs : st = .int x :: rest) (hc : if_icmp.holds cd x 0 = false) (hp : pc + 3 = pc') (g : G w Q h k n pc' Ls rest) : G w Q h k n pc Ls st := by
  subst hp; exact g.adv fun T locs X _ t r => XS.ifNo X.here C.ex rfl (C.dec hd) hs ((if0 _ _).trans hc) r
theorem g_icY (C : Cx w l Z own bytes mx rt nm rm n0) {cd : ClassFile.Cond} {o : Int} {x y : Int32} (hd : decode bytes pc = .ok (.if_icmp cd o, 3)) (hs : st = .int y :: .int x :: rest) (hc : if_icmp.holds cd x y = true) (ho : 0 ≤ (pc : Int) + o) (hp : ((pc : Int) + o).toNat = pc') (g : G w Q h k n pc' Ls rest) : G w Q h k n pc Ls st :=
  g.adv fun T locs X _ t r => XS.icmpYes X.here C.ex rfl (pc0 := pc) rfl (C.dec hd) hs hc ho hp r
theorem g_icN (C : Cx w l Z own bytes mx rt nm rm n0) {cd : ClassFile.Cond} {o : Int} {x y : Int32} (hd : decode bytes pc = .ok (.if_icmp cd o, 3)) (hs : st = .int y :: .int x :: rest) (hc : if_icmp.holds cd x y = false) (hp : pc + 3 = pc') (g : G w Q h k n pc' Ls rest) : G w Q h k n pc Ls st := by
  subst hp; exact g.adv fun T locs X _ t r => XS.icmpNo X.here C.ex rfl (C.dec hd) hs hc r
/-- what a branch says, in plain words -/
def says (cd : ClassFile.Cond) (x y : Int32) : Prop := match cd with | .lt => x < y | .ge => ¬ x < y | .gt => y < x | .le => ¬ y < x | .eq => x = y | .ne => ¬ x = y
theorem says_t {cd : ClassFile.Cond} {x y : Int32} (q : says cd x y) : if_icmp.holds cd x y = true := by
  cases cd
  · exact (teq q).1
  · exact (feq q).2
  · exact (tlt q).1
  · exact (flt q).2.1
  · exact (tlt q).2.2.1
  · exact (flt q).2.2.2
theorem says_f {cd : ClassFile.Cond} {x y : Int32} (q : ¬ says cd x y) : if_icmp.holds cd x y = false := by
  cases cd
  · exact (feq q).1
  · exact (teq (Decidable.not_not.mp q)).2
  · exact (flt q).1
  · exact (tlt (Decidable.not_not.mp q)).2.1
  · exact (flt q).2.2.1
  · exact (tlt (Decidable.not_not.mp q)).2.2.2
theorem g_icB (C : Cx w l Z own bytes mx rt nm rm n0) {cd : ClassFile.Cond} {o : Int} {x y : Int32} {pcT : Nat} (hd : decode bytes pc = .ok (.if_icmp cd o, 3)) (hs : st = .int y :: .int x :: rest) (ho : 0 ≤ (pc : Int) + o) (hT : ((pc : Int) + o).toNat = pcT) (hp : pc + 3 = pc') (gy : says cd x y → G w Q h k n pcT Ls rest) (gn : ¬ says cd x y → G w Q h k n pc' Ls rest) : G w Q h k n pc Ls st := by
  by_cases q : says cd x y
  · exact g_icY C hd hs (says_t q) ho hT (gy q)
  · exact g_icN C hd hs (says_f q) hp (gn q)
theorem g_ifB (C : Cx w l Z own bytes mx rt nm rm n0) {cd : ClassFile.Cond} {o : Int} {x : Int32} {pcT : Nat} (hd : decode bytes pc = .ok (.ifCond cd o, 3)) (hs : st = .int x :: rest) (ho : 0 ≤ (pc : Int) + o) (hT : ((pc : Int) + o).toNat = pcT) (hp : pc + 3 = pc') (gy : says cd x 0 → G w Q h k n pcT Ls rest) (gn : ¬ says cd x 0 → G w Q h k n pc' Ls rest) : G w Q h k n pc Ls st := by
  by_cases q : says cd x 0
  · exact g_ifY C hd hs (says_t q) ho hT (gy q)
  · exact g_ifN C hd hs (says_f q) hp (gn q)
theorem g_ifnullY (C : Cx w l Z own bytes mx rt nm rm n0) {o : Int} (hd : decode bytes pc = .ok (.ifnull o, 3)) (hs : st = .null :: rest) (ho : 0 ≤ (pc : Int) + o) (hp : ((pc : Int) + o).toNat = pc') (g : G w Q h k n pc' Ls rest) : G w Q h k n pc Ls st :=
  g.adv fun T locs X _ t r => XS.ifnullYes X.here C.ex rfl (pc0 := pc) rfl (C.dec hd) hs ho hp r
theorem g_ifnullN (C : Cx w l Z own bytes mx rt nm rm n0) {o : Int} {b : Addr} (hd : decode bytes pc = .ok (.ifnull o, 3)) (hs : st = .ref b :: rest) (hp : pc + 3 = pc') (g : G w Q h k n pc' Ls rest) : G w Q h k n pc Ls st := by
  subst hp; exact g.adv fun T locs X _ t r => XS.ifnullNo X.here C.ex rfl (C.dec hd) hs r
theorem g_ifnonnullY (C : Cx w l Z own bytes mx rt nm rm n0) {o : Int} {b : Addr} (hd : decode bytes pc = .ok (.ifnonnull o, 3)) (hs : st = .ref b :: rest) (ho : 0 ≤ (pc : Int) + o) (hp : ((pc : Int) + o).toNat = pc') (g : G w Q h k n pc' Ls rest) : G w Q h k n pc Ls st :=
  g.adv fun T locs X _ t r => XS.ifnonnullYes X.here C.ex rfl (pc0 := pc) rfl (C.dec hd) hs ho hp r
theorem g_ifnonnullN (C : Cx w l Z own bytes mx rt nm rm n0) {o : Int} (hd : decode bytes pc = .ok (.ifnonnull o, 3)) (hs : st = .null :: rest) (hp : pc + 3 = pc') (g : G w Q h k n pc' Ls rest) : G w Q h k n pc Ls st := by
  subst hp; exact g.adv fun T locs X _ t r => XS.ifnonnullNo X.here C.ex rfl (C.dec hd) hs r
theorem g_acmp (C : Cx w l Z own bytes mx rt nm rm n0) {cd : ACond} {o : Int} {x y : Value} {same : Bool} (hd : decode bytes pc = .ok (.if_acmp cd o, 3)) (hs : st = y :: x :: rest) (h1 : x.isRef = true) (h2 : y.isRef = true) (hq : decide (x = y) = same) (ho : 0 ≤ (pc : Int) + o) (hp : pc' = if acV cd same = true then ((pc : Int) + o).toNat else pc + 3) (g : G w Q h k n pc' Ls rest) : G w Q h k n pc Ls st :=
  g.adv fun T locs X _ t r => Jvm.RoadKit.acmp (g := mkF w.m pc Ls st) X C.ex rfl h1 h2 (pc0 := pc) rfl (C.dec hd) hs hq ho hp r
theorem g_tsw (C : Cx w l Z own bytes mx rt nm rm n0) {df lo hi : Int} {offs : Array Int} {len : Nat} {o : Int} {i : Int32} (hd : decode bytes pc = .ok (.tableswitch df lo hi offs, len)) (hs : st = .int i :: rest) (hin : ¬ (i.toInt < lo ∨ i.toInt > hi)) (hoff : offs[(i.toInt - lo).toNat]? = some o) (ho : 0 ≤ (pc : Int) + o) (hp : ((pc : Int) + o).toNat = pc') (g : G w Q h k n pc' Ls rest) : G w Q h k n pc Ls st :=
  g.adv fun T locs X _ t r => XS.tswIn X.here C.ex rfl (pc0 := pc) rfl (C.dec hd) hs hin hoff ho hp r
theorem g_tswOut (C : Cx w l Z own bytes mx rt nm rm n0) {df lo hi : Int} {offs : Array Int} {len : Nat} {i : Int32} (hd : decode bytes pc = .ok (.tableswitch df lo hi offs, len)) (hs : st = .int i :: rest) (hin : i.toInt < lo ∨ i.toInt > hi) (ho : 0 ≤ (pc : Int) + df) (hp : ((pc : Int) + df).toNat = pc') (g : G w Q h k n pc' Ls rest) : G w Q h k n pc Ls st :=
  g.adv fun T locs X _ t r => XS.tswOut X.here C.ex rfl (pc0 := pc) rfl (C.dec hd) hs hin ho hp r
/-! the heap and the tables -/
theorem g_getF (C : Cx w l Z own bytes mx rt nm rm n0) {R0 O f d : String} {i : Nat} {a : Addr} {v : Value} (hw : (Jvm.Cond.fieldLink own i R0 f d).before a0 Z = true) (via : Via Z R0 O f d) (hd : decode bytes pc = .ok (.getfield i, 3)) (hs : st = .ref a :: rest) (F : Fld Z h a O f d v) (hp : pc + 3 = pc') (g : G w Q h k n pc' Ls (v :: rest)) : G w Q h k n pc Ls st := by
  subst hp; intro T locs X eT N
  obtain ⟨T', X', e', s'⟩ := getF X C.ex C.hZ C.ow (host := "") (Or.inl hw) via eT F (g := mkF w.m pc Ls st) rfl hs (C.dec hd)
  exact G.to X' e' N s' g
theorem g_getFN (C : Cx w l Z own bytes mx rt nm rm n0) {R0 O f d host : String} {i : Nat} {a : Addr} {v : Value} (hw : (Jvm.Cond.fieldLinkNest own i R0 f d host).before a0 Z = true) (via : Via Z R0 O f d) (hd : decode bytes pc = .ok (.getfield i, 3)) (hs : st = .ref a :: rest) (F : Fld Z h a O f d v) (hp : pc + 3 = pc') (g : G w Q h k n pc' Ls (v :: rest)) : G w Q h k n pc Ls st := by
  subst hp; intro T locs X eT N
  obtain ⟨T', X', e', s'⟩ := getF X C.ex C.hZ C.ow (Or.inr hw) via eT F (g := mkF w.m pc Ls st) rfl hs (C.dec hd)
  exact G.to X' e' N s' g
theorem g_getS (C : Cx w l Z own bytes mx rt nm rm n0) {R0 O f d : String} {i : Nat} {v : Value} (hw : (Jvm.Cond.fieldLink own i R0 f d).before a0 Z = true) (via : Via Z R0 O f d) (hd : decode bytes pc = .ok (.getstatic i, 3)) (F : Sta Z h O f d v) (hp : pc + 3 = pc') (g : G w Q h k n pc' Ls (v :: st)) : G w Q h k n pc Ls st := by
  subst hp; intro T locs X eT N
  obtain ⟨T', X', e', s'⟩ := getS2 X C.ex C.hZ C.ow (host := "") (Or.inl hw) via eT F (g := mkF w.m pc Ls st) rfl (C.dec hd)
  exact G.to X' e' N s' g
theorem g_getSN (C : Cx w l Z own bytes mx rt nm rm n0) {R0 O f d host : String} {i : Nat} {v : Value} (hw : (Jvm.Cond.fieldLinkNest own i R0 f d host).before a0 Z = true) (via : Via Z R0 O f d) (hd : decode bytes pc = .ok (.getstatic i, 3)) (F : Sta Z h O f d v) (hp : pc + 3 = pc') (g : G w Q h k n pc' Ls (v :: st)) : G w Q h k n pc Ls st := by
  subst hp; intro T locs X eT N
  obtain ⟨T', X', e', s'⟩ := getS2 X C.ex C.hZ C.ow (Or.inr hw) via eT F (g := mkF w.m pc Ls st) rfl (C.dec hd)
  exact G.to X' e' N s' g
theorem fr_snoc {L : List Loc} {a : Addr} {sl k : Nat} (N : Fr k L) (q : k ≤ a) : Fr k (L ++ [⟨a, sl⟩]) := N.app fun y hy => by cases List.mem_singleton.mp hy; exact q
theorem g_putF (C : Cx w l Z own bytes mx rt nm rm n0) {R0 O f d K : String} {i kk : Nat} {ty : FieldType} {a : Addr} {v old : Value} (hw : (Jvm.Cond.fieldLink own i R0 f d).before a0 Z = true) (via : Via Z R0 O f d) (hd : decode bytes pc = .ok (.putfield i, 3)) (hs : st = v :: .ref a :: rest) (F : Fld Z h a O f d old) (E : Exa Z h a K) (La : (Jvm.Cond.lays K O f d).before a0 Z = true ∨ ((Jvm.Cond.laysFinal K O f d).before a0 Z = true ∧ own = O ∧ nm = "<init>")) (wi : (Jvm.Cond.instantiable K kk).before a0 Z = true) (hty : parseFieldDescriptor d = some ty) (hn : narrow ty v = v) (hf : fits ty v = true) (ge : n0 ≤ a) (hp : pc + 3 = pc')
    (g : ∀ h', Wr h h' a (Jvm.RoadKit.slotOf Z O f d) v → G w Q h' k n pc' Ls rest) : G w Q h k n pc Ls st := by
  subst hp; intro T locs X eT N
  obtain ⟨T', h', X', e', W, s'⟩ := putF X C.ex C.hZ C.ow (host := "") (Or.inl hw) via eT F E (La.imp id fun q => ⟨q.1, q.2.1, C.mn.trans q.2.2⟩) wi hty hn hf (g := mkF w.m pc Ls st) rfl hs (C.dec hd)
  exact G.to X' e' (fr_snoc N (C.nn ▸ ge)) s' (g h' W)
theorem g_putFN (C : Cx w l Z own bytes mx rt nm rm n0) {R0 O f d K : String} {i kk : Nat} {ty : FieldType} {a : Addr} {v v' old : Value} (hw : (Jvm.Cond.fieldLink own i R0 f d).before a0 Z = true) (via : Via Z R0 O f d) (hd : decode bytes pc = .ok (.putfield i, 3)) (hs : st = v :: .ref a :: rest) (F : Fld Z h a O f d old) (E : Exa Z h a K) (La : (Jvm.Cond.lays K O f d).before a0 Z = true ∨ ((Jvm.Cond.laysFinal K O f d).before a0 Z = true ∧ own = O ∧ nm = "<init>")) (wi : (Jvm.Cond.instantiable K kk).before a0 Z = true) (hty : parseFieldDescriptor d = some ty) (hn : narrow ty v = v') (hf : fits ty v' = true) (ge : n0 ≤ a) (hp : pc + 3 = pc')
    (g : ∀ h', Wr h h' a (Jvm.RoadKit.slotOf Z O f d) v' → G w Q h' k n pc' Ls rest) : G w Q h k n pc Ls st := by
  subst hp; intro T locs X eT N
  obtain ⟨T', h', X', e', W, s'⟩ := putFN X C.ex C.hZ C.ow hw via eT F E (La.imp id fun q => ⟨q.1, q.2.1, C.mn.trans q.2.2⟩) wi hty hn hf (g := mkF w.m pc Ls st) rfl hs (C.dec hd)
  exact G.to X' e' (fr_snoc N (C.nn ▸ ge)) s' (g h' W)
theorem g_new (C : Cx w l Z own bytes mx rt nm rm n0) {K : String} {i ns : Nat} (hw : (Jvm.Cond.classLink own i K).before a0 Z = true) (wi : (Jvm.Cond.instantiable K ns).before a0 Z = true) (wz : (Jvm.Cond.initialized K).before a0 Z = true) (hd : decode bytes pc = .ok (.new i, 3)) (hc : k' ≤ rm.cells) (hl : n' ≤ rm.slots) (ek : k + 1 = k') (en : n + ns = n') (hp : pc + 3 = pc')
    (g : ∀ h' a, a = h.size → Ext h h' → Exa Z h' a K → (∀ {O f d : String} {ty : FieldType}, Laid Z a0 K O f d → parseFieldDescriptor d = some ty → Fld Z h' a O f d (defaultValue ty)) → G w Q h' k' n' pc' Ls (.ref a :: st)) : G w Q h k n pc Ls st := by
  subst hp ek en; intro T locs X eT N
  obtain ⟨T', h', X', e', E, A, D, -, s'⟩ := newO X C.ex C.hZ C.ow hw wi wz eT (g := mkF w.m pc Ls st) rfl (C.dec hd) (by rw [C.ro]; exact hc) (by rw [C.ro]; exact hl)
  exact G.to X' e' N s' (g h' _ rfl E A D)
theorem g_initO (C : Cx w l Z own bytes mx rt nm rm n0) {i : Nat} {a : Addr} (hw : (Jvm.Cond.methodLink own i Lib.objectInit).before a0 Z = true) (w2 : (Jvm.Cond.instanceMethod Lib.objectInit).before a0 Z = true) (w3 : (Jvm.Cond.code Lib.objectInit ⟨#[0xb1]⟩ 1 none).before a0 Z = true) (hd : decode bytes pc = .ok (.invokespecial i, 3)) (hs : st = .ref a :: rest) (hz : Ls.size = mx) (hf : 1 ≤ rm.frames) (hl : (rest.map fun v => v.category).sum + 12 ≤ rm.locals) (hp : pc + 3 = pc') (g : G w Q h k n pc' Ls rest) : G w Q h k n pc Ls st := by
  subst hp; intro T locs X eT N
  obtain ⟨T', X', e', s'⟩ := initO X C.ex C.hZ C.ow hw w2 w3 eT (g := mkF w.m pc Ls st) rfl (hz.trans C.ml.symm) hs (C.dec hd) (by rw [C.ro]; exact hf) (W := (rest.map fun v => v.category).sum) (by show 2 * 0 + _ ≤ _; omega) (by rw [C.ro]; exact hl)
  exact G.to X' e' N s' g
theorem g_cast (C : Cx w l Z own bytes mx rt nm rm n0) {K : String} {i : Nat} {a : Addr} (hw : (Jvm.Cond.classLink own i K).before a0 Z = true) (hd : decode bytes pc = .ok (.checkcast i, 3)) (hs : st = .ref a :: rest) (F : Ins Z h a K true) (hp : pc + 3 = pc') (g : G w Q h k n pc' Ls st) : G w Q h k n pc Ls st := by
  subst hp; intro T locs X eT N
  obtain ⟨T', X', e', s'⟩ := castY X C.ex C.hZ C.ow hw eT F (g := mkF w.m pc Ls st) rfl hs (C.dec hd)
  exact G.to X' e' N s' g
theorem g_instY (C : Cx w l Z own bytes mx rt nm rm n0) {K : String} {i : Nat} {a : Addr} (hw : (Jvm.Cond.classLink own i K).before a0 Z = true) (hd : decode bytes pc = .ok (.instanceof i, 3)) (hs : st = .ref a :: rest) (F : Ins Z h a K true) (hp : pc + 3 = pc') (g : G w Q h k n pc' Ls (.int 1 :: rest)) : G w Q h k n pc Ls st := by
  subst hp; intro T locs X eT N
  obtain ⟨T', X', e', s'⟩ := instY X C.ex C.hZ C.ow hw eT F (g := mkF w.m pc Ls st) rfl hs (C.dec hd)
  exact G.to X' e' N s' g
theorem g_instN (C : Cx w l Z own bytes mx rt nm rm n0) {K B : String} {i : Nat} {a : Addr} (hw : (Jvm.Cond.classLink own i K).before a0 Z = true) (hd : decode bytes pc = .ok (.instanceof i, 3)) (hs : st = .ref a :: rest) (E : Exa Z h a B) (F : ∃ c t, Z.vm.findClass B = some c ∧ Z.vm.findClass K = some t ∧ Z.vm.assignable c t = false) (hp : pc + 3 = pc') (g : G w Q h k n pc' Ls (.int 0 :: rest)) : G w Q h k n pc Ls st := by
  subst hp; intro T locs X eT N
  obtain ⟨T', X', e', s'⟩ := instNo X C.ex C.hZ C.ow hw eT E F (g := mkF w.m pc Ls st) rfl hs (C.dec hd)
  exact G.to X' e' N s' g
theorem g_newP (C : Cx w l Z own bytes mx rt nm rm n0) {aty : ArrayType} {z : Int32} {cap : Nat} (hw : (Jvm.Cond.arrayClass (newarray.typeOf aty)).before a0 Z = true) (hd : decode bytes pc = .ok (.newarray aty, 2)) (hs : st = .int z :: rest) (hn : ¬ z < 0) (hcap : z.toNatClampNeg ≤ cap) (hb' : cap * 8 ≤ 536870912) (hc : k' ≤ rm.cells) (hl : n' ≤ rm.slots) (ek : k + 1 = k') (en : n + cap = n') (hp : pc + 2 = pc')
    (g : ∀ h' a kA, a = h.size → Ext h h' → Arv Z h' a kA (newarray.typeOf aty) z [] (defaultValue (newarray.typeOf aty)) → G w Q h' k' n' pc' Ls (.ref a :: rest)) : G w Q h k n pc Ls st := by
  subst hp ek en; intro T locs X eT N
  obtain ⟨T', h', kA, X', e', E, A, s'⟩ := newP X C.ex C.hZ hw eT (g := mkF w.m pc Ls st) rfl (C.dec hd) hs hn hcap hb' (by rw [C.ro]; exact hc) (by rw [C.ro]; exact hl)
  exact G.to X' e' N s' (g h' _ kA rfl E (Arv.new A hn))
theorem g_newR (C : Cx w l Z own bytes mx rt nm rm n0) {K : String} {i : Nat} {z : Int32} {cap : Nat} (hw : (Jvm.Cond.classLink own i K).before a0 Z = true) (w2 : (Jvm.Cond.arrayOver (.object K)).before a0 Z = true) (hd : decode bytes pc = .ok (.anewarray i, 3)) (hs : st = .int z :: rest) (hn : ¬ z < 0) (hcap : z.toNatClampNeg ≤ cap) (hb' : cap * 8 ≤ 536870912) (hc : k' ≤ rm.cells) (hl : n' ≤ rm.slots) (ek : k + 1 = k') (en : n + cap = n') (hp : pc + 3 = pc')
    (g : ∀ h' a kA, a = h.size → Ext h h' → Arv Z h' a kA (.object K) z [] .null → Ovr Z kA K → G w Q h' k' n' pc' Ls (.ref a :: rest)) : G w Q h k n pc Ls st := by
  subst hp ek en; intro T locs X eT N
  obtain ⟨T', h', kA, X', e', E, A, O, s'⟩ := newR X C.ex C.hZ C.ow hw w2 eT (g := mkF w.m pc Ls st) rfl (C.dec hd) hs hn hcap hb' (by rw [C.ro]; exact hc) (by rw [C.ro]; exact hl)
  exact G.to X' e' N s' (g h' _ kA rfl E (Arv.new A hn) O)
theorem g_newPE (C : Cx w l Z own bytes mx rt nm rm n0) {aty : ArrayType} {z : Int32} {cap : Nat} {ad : String} (hw : (Jvm.Cond.arrayClass (newarray.typeOf aty)).before a0 Z = true) (had : "[" ++ (newarray.typeOf aty).toString = ad) (hd : decode bytes pc = .ok (.newarray aty, 2)) (hs : st = .int z :: rest) (hn : ¬ z < 0) (hcap : z.toNatClampNeg ≤ cap) (hb' : cap * 8 ≤ 536870912) (hc : k' ≤ rm.cells) (hl : n' ≤ rm.slots) (ek : k + 1 = k') (en : n + cap = n') (hp : pc + 2 = pc')
    (g : ∀ h' a kA, a = h.size → Ext h h' → Arv Z h' a kA (newarray.typeOf aty) z [] (defaultValue (newarray.typeOf aty)) → Exa Z h' a ad → G w Q h' k' n' pc' Ls (.ref a :: rest)) : G w Q h k n pc Ls st := by
  subst hp ek en; intro T locs X eT N
  obtain ⟨T', h', kA, X', e', E, A, B, s'⟩ := newPE X C.ex C.hZ hw eT (g := mkF w.m pc Ls st) rfl (C.dec hd) hs hn hcap hb' (by rw [C.ro]; exact hc) (by rw [C.ro]; exact hl) had
  exact G.to X' e' N s' (g h' _ kA rfl E (Arv.new A hn) B)
theorem g_newRA (C : Cx w l Z own bytes mx rt nm rm n0) {K ad : String} {i : Nat} {ty : FieldType} {z : Int32} {cap : Nat} (hC : (FieldType.array ty).toString = K) (had : "[" ++ K = ad) (hw : (Jvm.Cond.classLink own i K).before a0 Z = true) (w2 : (Jvm.Cond.arrayOver (.array ty)).before a0 Z = true) (hd : decode bytes pc = .ok (.anewarray i, 3)) (hs : st = .int z :: rest) (hn : ¬ z < 0) (hcap : z.toNatClampNeg ≤ cap) (hb' : cap * 8 ≤ 536870912) (hc : k' ≤ rm.cells) (hl : n' ≤ rm.slots) (ek : k + 1 = k') (en : n + cap = n') (hp : pc + 3 = pc')
    (g : ∀ h' a kA, a = h.size → Ext h h' → Arv Z h' a kA (.array ty) z [] .null → Exa Z h' a ad → OvrA Z kA ty K → G w Q h' k' n' pc' Ls (.ref a :: rest)) : G w Q h k n pc Ls st := by
  subst hp ek en; intro T locs X eT N
  obtain ⟨T', h', kA, X', e', E, A, B, O, s'⟩ := newRA X C.ex C.hZ C.ow hC hw w2 eT (g := mkF w.m pc Ls st) rfl (C.dec hd) hs hn hcap hb' (by rw [C.ro]; exact hc) (by rw [C.ro]; exact hl) had
  exact G.to X' e' N s' (g h' _ kA rfl E (Arv.new A hn) B O)
theorem stoA {h : Heap} {a y : Addr} {kA : ClassId} {t0 ty : FieldType} {K : String} {z : Int32} {vs : List Value} {dv : Value} (A : Arv Z h a kA t0 z vs dv) (O : OvrA Z kA ty K) (E : Exa Z h y K) : Sto Z h a (.ref y) := by
  obtain ⟨c, Ar, q, -⟩ := A; exact Sto.ofVA Ar q O (Ins.self E)
theorem stoR {h : Heap} {a y : Addr} {kA : ClassId} {t0 : FieldType} {K : String} {z : Int32} {vs : List Value} {dv : Value} (A : Arv Z h a kA t0 z vs dv) (O : Ovr Z kA K) (I : Ins Z h y K true) : Sto Z h a (.ref y) := by
  obtain ⟨c, Ar, q, -⟩ := A; exact Sto.ofV Ar q O I
theorem g_cpA (C : Cx w l Z own bytes mx rt nm rm n0) {i : Nat} {a b : Addr} {k1 k2 : ClassId} {ty ty' : FieldType} {z z' sp dp nn : Int32} {vs vd us : List Value} {dv dd : Value}
    (w1 : (Jvm.Cond.methodLink own i Jvm.Stand.acN).before a0 Z = true) (w2 : (Jvm.Cond.native Jvm.Stand.acN).before a0 Z = true) (w3 : (Jvm.Cond.static Jvm.Stand.acN).before a0 Z = true) (w4 : (Jvm.Cond.initialized "java/lang/System").before a0 Z = true)
    (hd : decode bytes pc = .ok (.invokestatic i, 3)) (hs : st = .int nn :: .int dp :: .ref b :: .int sp :: .ref a :: rest) (hz : Ls.size = mx) (A : Arv Z h a k1 ty z vs dv) (B : Arv Z h b k2 ty' z' vd dd) (hty : (ty = ty' ∧ refKind ty = false) ∨ (refKind ty = true ∧ refKind ty' = true ∧ StoL Z h b us))
    (h1 : ¬ sp < 0) (h2 : ¬ dp < 0) (h3 : ¬ nn < 0) (h4 : sp.toNatClampNeg + nn.toNatClampNeg ≤ z.toNatClampNeg) (h5 : dp.toNatClampNeg + nn.toNatClampNeg ≤ z'.toNatClampNeg) (hus : us = (List.range nn.toNatClampNeg).map fun i => vs.getD (sp.toNatClampNeg + i) dv) (hlen : dp.toNatClampNeg + nn.toNatClampNeg ≤ vd.length) (ge : n0 ≤ b)
    (hf : 1 ≤ rm.frames) (hlo : (rest.map fun v => v.category).sum + (nativeFrameWords "java/lang/System" "arraycopy" 5 + 11) ≤ rm.locals) (hp : pc + 3 = pc')
    (g : ∀ h', Keep h h' [b] → Arv Z h' b k2 ty' z' (vd.take dp.toNatClampNeg ++ us ++ vd.drop (dp.toNatClampNeg + nn.toNatClampNeg)) dd → G w Q h' k n pc' Ls rest) : G w Q h k n pc Ls st := by
  subst hp; intro T locs X eT N
  obtain ⟨T', h', L, X', e', N', K, A', s'⟩ := cpA X C.ex C.hZ C.ow w1 w2 w3 w4 eT A B hty h1 h2 h3 h4 h5 hus hlen (n0 := w.n0) N (C.nn ▸ ge) (g := mkF w.m pc Ls st) rfl (hz.trans C.ml.symm) hs (C.dec hd) (by rw [C.ro]; exact hf) (W := (rest.map fun v => v.category).sum) (by show 2 * 0 + _ ≤ _; omega) (by rw [C.ro]; exact hlo)
  exact G.to X' e' N' s' (g h' K A')
/-! arrays by their values: an array fact (Arv) with a list of all its values -/
theorem arv_inb {a : Addr} {kA : ClassId} {ty : FieldType} {z j : Int32} {vs : List Value} {dv : Value} (A : Arv Z h a kA ty z vs dv) (q1 : ¬ j < 0) (q2 : j < z) : ∃ cl, Arr Z h a cl ty ∧ ¬ (j < 0 ∨ cl.slots.size ≤ j.toNatClampNeg) ∧ cl.slots[j.toNatClampNeg]? = some (vs.getD j.toNatClampNeg dv) := by
  obtain ⟨cl, Ar, -, S, -, H, -⟩ := A
  have hi := inb_of S ⟨q1, q2⟩
  exact ⟨cl, Ar, hi, H.at hi rfl⟩
theorem arv_put {h' : Heap} {a : Addr} {kA : ClassId} {ty : FieldType} {z j : Int32} {vs : List Value} {dv v : Value} (A : Arv Z h a kA ty z vs dv) (hv : fits ty v = true) (W : Wr h h' a j.toNatClampNeg v) {i : Nat} (hj : j.toNatClampNeg = i) (hi : i < vs.length) : Arv Z h' a kA ty z (vs.set i v) dv := by
  obtain ⟨cl, Ar, q1, S, q3, H, F⟩ := A
  exact Arv.set Ar q1 S q3 H F hv W i hj hi

theorem g_iaload (C : Cx w l Z own bytes mx rt nm rm n0) {a : Addr} {kA : ClassId} {z j : Int32} {vs : List Value} {dv : Value} {x : Int32} (hd : decode bytes pc = .ok (.iaload, 1)) (hs : st = .int j :: .ref a :: rest) (A : Arv Z h a kA .int z vs dv) (q1 : ¬ j < 0) (q2 : j < z) (hv : vs.getD j.toNatClampNeg dv = .int x) (hp : pc + 1 = pc') (g : G w Q h k n pc' Ls (.int x :: rest)) : G w Q h k n pc Ls st := by
  subst hp; intro T locs X eT N
  obtain ⟨cl, Ar, hi, hg⟩ := arv_inb A q1 q2
  rw [hv] at hg
  exact G.to X eT N (fun t r => X.iaload C.ex (j := j) (v := .int x) (by rw [eT]; exact Ar.1) (State.isArrayOf_alike C.hZ.alike Ar.2.1) Ar.2.2 hi hg (g := mkF w.m pc Ls st) rfl hs (C.dec hd) _ r) g
theorem g_laload (C : Cx w l Z own bytes mx rt nm rm n0) {a : Addr} {kA : ClassId} {z j : Int32} {vs : List Value} {dv : Value} {x : Int64} (hd : decode bytes pc = .ok (.laload, 1)) (hs : st = .int j :: .ref a :: rest) (A : Arv Z h a kA .long z vs dv) (q1 : ¬ j < 0) (q2 : j < z) (hv : vs.getD j.toNatClampNeg dv = .long x) (hp : pc + 1 = pc') (g : G w Q h k n pc' Ls (.long x :: rest)) : G w Q h k n pc Ls st := by
  subst hp; intro T locs X eT N
  obtain ⟨cl, Ar, hi, hg⟩ := arv_inb A q1 q2
  rw [hv] at hg
  exact G.to X eT N (fun t r => X.laload C.ex (j := j) (v := .long x) (by rw [eT]; exact Ar.1) (State.isArrayOf_alike C.hZ.alike Ar.2.1) Ar.2.2 hi hg (g := mkF w.m pc Ls st) rfl hs (C.dec hd) _ r) g
theorem g_baload (C : Cx w l Z own bytes mx rt nm rm n0) {a : Addr} {kA : ClassId} {z j : Int32} {vs : List Value} {dv : Value} {x : Int32} (hd : decode bytes pc = .ok (.baload, 1)) (hs : st = .int j :: .ref a :: rest) (A : Arv Z h a kA .byte z vs dv) (q1 : ¬ j < 0) (q2 : j < z) (hv : vs.getD j.toNatClampNeg dv = .int x) (hp : pc + 1 = pc') (g : G w Q h k n pc' Ls (.int x :: rest)) : G w Q h k n pc Ls st := by
  subst hp; intro T locs X eT N
  obtain ⟨cl, Ar, hi, hg⟩ := arv_inb A q1 q2
  rw [hv] at hg
  exact G.to X eT N (fun t r => X.baloadBytes C.ex (j := j) (v := .int x) (by rw [eT]; exact Ar.1) (State.isArrayOf_alike C.hZ.alike Ar.2.1) Ar.2.2 hi hg (g := mkF w.m pc Ls st) rfl hs (C.dec hd) _ r) g
theorem g_aaload (C : Cx w l Z own bytes mx rt nm rm n0) {a : Addr} {kA : ClassId} {ty : FieldType} {z j : Int32} {vs : List Value} {dv x : Value} (hd : decode bytes pc = .ok (.aaload, 1)) (hs : st = .int j :: .ref a :: rest) (A : Arv Z h a kA ty z vs dv) (hty : ty.isReference = true) (q1 : ¬ j < 0) (q2 : j < z) (hv : vs.getD j.toNatClampNeg dv = x) (hp : pc + 1 = pc') (g : G w Q h k n pc' Ls (x :: rest)) : G w Q h k n pc Ls st := by
  subst hp; intro T locs X eT N
  obtain ⟨cl, Ar, hi, hg⟩ := arv_inb A q1 q2
  rw [hv] at hg
  exact G.to X eT N (fun t r => X.aaload C.ex (j := j) (v := x) (by rw [eT]; exact Ar.1) (State.isArrayOf_alike C.hZ.alike Ar.2.1) hty Ar.2.2 hi hg (g := mkF w.m pc Ls st) rfl hs (C.dec hd) _ r) g
theorem g_alen (C : Cx w l Z own bytes mx rt nm rm n0) {a : Addr} {kA : ClassId} {ty : FieldType} {z : Int32} {vs : List Value} {dv : Value} (hd : decode bytes pc = .ok (.arraylength, 1)) (hs : st = .ref a :: rest) (A : Arv Z h a kA ty z vs dv) (hp : pc + 1 = pc') (g : G w Q h k n pc' Ls (.int z :: rest)) : G w Q h k n pc Ls st := by
  subst hp; intro T locs X eT N
  obtain ⟨cl, Ar, -, S, q3, -, -⟩ := A
  exact G.to X eT N (fun t r => X.arraylength C.ex (by rw [eT]; exact Ar.1) (State.isArrayOf_alike C.hZ.alike Ar.2.1) (g := mkF w.m pc Ls st) rfl hs (C.dec hd) _ (by rw [len_of S q3]; exact r)) g

theorem g_iastore (C : Cx w l Z own bytes mx rt nm rm n0) {a : Addr} {kA : ClassId} {z j : Int32} {vs : List Value} {dv : Value} {x : Int32} (hd : decode bytes pc = .ok (.iastore, 1)) (hs : st = .int x :: .int j :: .ref a :: rest) (A : Arv Z h a kA .int z vs dv) (q1 : ¬ j < 0) (q2 : j < z) (ge : n0 ≤ a) (hp : pc + 1 = pc')
    (g : ∀ h', Wr h h' a j.toNatClampNeg (.int x) → G w Q h' k n pc' Ls rest) : G w Q h k n pc Ls st := by
  subst hp; intro T locs X eT N
  obtain ⟨cl, Ar, hi, -⟩ := arv_inb A q1 q2
  obtain ⟨T', h', X', e', W, s'⟩ := stI X C.ex C.hZ eT Ar (j := j) hi (g := mkF w.m pc Ls st) rfl hs (C.dec hd)
  exact G.to X' e' (fr_snoc N (C.nn ▸ ge)) s' (g h' W)
theorem g_lastore (C : Cx w l Z own bytes mx rt nm rm n0) {a : Addr} {kA : ClassId} {z j : Int32} {vs : List Value} {dv : Value} {x : Int64} (hd : decode bytes pc = .ok (.lastore, 1)) (hs : st = .long x :: .int j :: .ref a :: rest) (A : Arv Z h a kA .long z vs dv) (q1 : ¬ j < 0) (q2 : j < z) (ge : n0 ≤ a) (hp : pc + 1 = pc')
    (g : ∀ h', Wr h h' a j.toNatClampNeg (.long x) → G w Q h' k n pc' Ls rest) : G w Q h k n pc Ls st := by
  subst hp; intro T locs X eT N
  obtain ⟨cl, Ar, hi, -⟩ := arv_inb A q1 q2
  obtain ⟨T', h', X', e', W, s'⟩ := stJ X C.ex C.hZ eT Ar (j := j) hi (g := mkF w.m pc Ls st) rfl hs (C.dec hd)
  exact G.to X' e' (fr_snoc N (C.nn ▸ ge)) s' (g h' W)
theorem g_bastore (C : Cx w l Z own bytes mx rt nm rm n0) {a : Addr} {kA : ClassId} {z j : Int32} {vs : List Value} {dv : Value} {x : Int32} (hd : decode bytes pc = .ok (.bastore, 1)) (hs : st = .int x :: .int j :: .ref a :: rest) (A : Arv Z h a kA .byte z vs dv) (q1 : ¬ j < 0) (q2 : j < z) (ge : n0 ≤ a) (hp : pc + 1 = pc')
    (g : ∀ h', Wr h h' a j.toNatClampNeg (.int (nar .byte x)) → G w Q h' k n pc' Ls rest) : G w Q h k n pc Ls st := by
  subst hp; intro T locs X eT N
  obtain ⟨cl, Ar, hi, -⟩ := arv_inb A q1 q2
  obtain ⟨T', h', X', e', W, s'⟩ := stB X C.ex C.hZ eT Ar (j := j) hi (g := mkF w.m pc Ls st) rfl hs (C.dec hd)
  exact G.to X' e' (fr_snoc N (C.nn ▸ ge)) s' (g h' W)
theorem g_aastore (C : Cx w l Z own bytes mx rt nm rm n0) {a : Addr} {kA : ClassId} {ty : FieldType} {z j : Int32} {vs : List Value} {dv x : Value} (hd : decode bytes pc = .ok (.aastore, 1)) (hs : st = x :: .int j :: .ref a :: rest) (A : Arv Z h a kA ty z vs dv) (hty : ty.isReference = true) (F : Sto Z h a x) (q1 : ¬ j < 0) (q2 : j < z) (ge : n0 ≤ a) (hp : pc + 1 = pc')
    (g : ∀ h', Wr h h' a j.toNatClampNeg x → G w Q h' k n pc' Ls rest) : G w Q h k n pc Ls st := by
  subst hp; intro T locs X eT N
  obtain ⟨cl, Ar, hi, -⟩ := arv_inb A q1 q2
  obtain ⟨T', h', X', e', W, s'⟩ := stR X C.ex C.hZ eT Ar (j := j) hi hty F (g := mkF w.m pc Ls st) rfl hs (C.dec hd)
  exact G.to X' e' (fr_snoc N (C.nn ▸ ge)) s' (g h' W)
/-! returns -/
theorem g_ret (C : Cx w l Z own bytes mx (some t) nm rm n0) {v : Value} {i : Instr} (hd : decode bytes pc = .ok (i, 1)) (hs : st = v :: rest) (hn : narrow t v = v)
    (hi : (i = .ireturn ∧ (t = .int ∨ t = .boolean ∨ t = .byte ∨ t = .char ∨ t = .short) ∧ ∃ z, v = .int z) ∨ (i = .lreturn ∧ t = .long ∧ ∃ z, v = .long z) ∨ (i = .dreturn ∧ t = .double ∧ ∃ z, v = .double z) ∨ (i = .freturn ∧ t = .float ∧ ∃ z, v = .float z) ∨ (i = .areturn ∧ t.isReference = true ∧ v.isRef = true))
    (hk : k ≤ rm.cells) (hnn : n ≤ rm.slots) (q : Q (some v) h) : G w Q h k n pc Ls st := by
  subst hs; intro T locs X eT N
  obtain ⟨fs, hr, hrun, hended, hW, hsame⟩ := X.leave (v := some v) (fun h => by rw [C.ret] at h; cases h) C.lk
  exact ⟨_, _, retOut X C.ex C.ret hn hi (C.dec hd) hr, hrun, hended, _, locs, rfl, ⟨by show Q _ T.heap; rw [eT]; exact q, N⟩, ⟨_, rfl⟩, hW, hsame.mono (by rw [C.ro]; exact hk) (by rw [C.ro]; exact hnn)⟩
theorem g_ireturn (C : Cx w l Z own bytes mx (some .int) nm rm n0) {z : Int32} (hd : decode bytes pc = .ok (.ireturn, 1)) (hs : st = .int z :: rest) (hk : k ≤ rm.cells) (hnn : n ≤ rm.slots) (q : Q (some (.int z)) h) : G w Q h k n pc Ls st :=
  g_ret C hd hs rfl (Or.inl ⟨rfl, Or.inl rfl, z, rfl⟩) hk hnn q
theorem g_zreturn (C : Cx w l Z own bytes mx (some .boolean) nm rm n0) {z : Int32} (hd : decode bytes pc = .ok (.ireturn, 1)) (hs : st = .int z :: rest) (hn : narrow .boolean (.int z) = .int z) (hk : k ≤ rm.cells) (hnn : n ≤ rm.slots) (q : Q (some (.int z)) h) : G w Q h k n pc Ls st :=
  g_ret C hd hs hn (Or.inl ⟨rfl, Or.inr (Or.inl rfl), z, rfl⟩) hk hnn q
theorem g_breturn (C : Cx w l Z own bytes mx (some .byte) nm rm n0) {z : Int32} (hd : decode bytes pc = .ok (.ireturn, 1)) (hs : st = .int z :: rest) (hn : narrow .byte (.int z) = .int z) (hk : k ≤ rm.cells) (hnn : n ≤ rm.slots) (q : Q (some (.int z)) h) : G w Q h k n pc Ls st :=
  g_ret C hd hs hn (Or.inl ⟨rfl, Or.inr (Or.inr (Or.inl rfl)), z, rfl⟩) hk hnn q
theorem g_lreturn (C : Cx w l Z own bytes mx (some .long) nm rm n0) {z : Int64} (hd : decode bytes pc = .ok (.lreturn, 1)) (hs : st = .long z :: rest) (hk : k ≤ rm.cells) (hnn : n ≤ rm.slots) (q : Q (some (.long z)) h) : G w Q h k n pc Ls st :=
  g_ret C hd hs rfl (Or.inr (Or.inl ⟨rfl, rfl, z, rfl⟩)) hk hnn q
theorem g_areturn (C : Cx w l Z own bytes mx (some t) nm rm n0) {v : Value} (hd : decode bytes pc = .ok (.areturn, 1)) (hs : st = v :: rest) (ht : t.isReference = true) (hv : v.isRef = true) (hn : narrow t v = v) (hk : k ≤ rm.cells) (hnn : n ≤ rm.slots) (q : Q (some v) h) : G w Q h k n pc Ls st :=
  g_ret C hd hs hn (Or.inr (Or.inr (Or.inr (Or.inr ⟨rfl, ht, hv⟩)))) hk hnn q
theorem g_return (C : Cx w l Z own bytes mx none nm rm n0) (hd : decode bytes pc = .ok (.return_, 1)) (hs : st = []) (hk : k ≤ rm.cells) (hnn : n ≤ rm.slots) (q : Q none h) : G w Q h k n pc Ls st := by
  subst hs; intro T locs X eT N
  obtain ⟨fs, hr, hrun, hended, hW, hsame⟩ := X.leave (v := none) (fun _ => rfl) C.lk
  exact ⟨_, _, X.returnOut C.ex C.ret (C.dec hd) hr, hrun, hended, _, locs, rfl, ⟨by show Q _ T.heap; rw [eT]; exact q, N⟩, ⟨_, rfl⟩, hW, hsame.mono (by rw [C.ro]; exact hk) (by rw [C.ro]; exact hnn)⟩
/-! calls by the callee's contract -/
theorem g_fin {rm' : Room} {Q' : Option Value → Heap → Prop} {T : State} {locs : List Loc} {as : Array Value} {v : Option Value} {B : Pt} {A : Pt} (C : Cx w l Z own bytes mx rt nm rm n0) (hA : A.locs = locs ∧ A.cells = k ∧ A.slots = n)
    (X' : Stand w.p w.l w.e w.R w.s w.m w.args w.below w.meth w.c B.U B.locs B.cells B.slots) (hQ : ∃ L, (Q' v B.U.heap ∧ Fr n0 L) ∧ B.locs = A.locs ++ L ∧ B.cells = A.cells + rm'.cells ∧ B.slots = A.slots + rm'.slots) (N : Fr w.n0 locs)
    (g : ∀ v h', Q' v h' → G w Q h' (k + rm'.cells) (n + rm'.slots) pc' Ls (psh v rest)) (s' : ∀ t, Steps w.p.tables w.e w.below (B.U.setTop (mkF w.m pc' Ls (v.toList ++ rest))) t → Steps w.p.tables w.e w.below (T.setTop (mkF w.m pc Ls st)) t) : Ends w Q (T.setTop (mkF w.m pc Ls st)) := by
  obtain ⟨T', L', k', n'⟩ := B
  obtain ⟨L, ⟨hq, hL⟩, e1, e2, e3⟩ := hQ
  obtain ⟨a1, a2, a3⟩ := hA
  dsimp only [Pt.U, Pt.locs, Pt.cells, Pt.slots] at X' hq e1 e2 e3 s' a1 a2 a3
  subst a1 a2 a3 e1 e2 e3
  rw [psh_eq] at s'
  exact G.to X' rfl (N.app (C.nn ▸ hL)) s' (g v _ hq)
theorem g_callS (C : Cx w l Z own bytes mx rt nm rm n0) {y : MethodName} {i mL : Nat} {bs : ByteArray} {rt' : Option FieldType} {rm' : Room} {Q' : Option Value → Heap → Prop} {argsL : List Value} {ps : List FieldType} {r : Option FieldType}
    (w1 : (Jvm.Cond.methodLink own i y).before a0 Z = true) (w2 : (Jvm.Cond.static y).before a0 Z = true) (w3 : (Jvm.Cond.initialized y.cls).before a0 Z = true) (w4 : (Jvm.Cond.code y bs mL rt').before a0 Z = true) (hy : y.cls ≠ "java/lang/invoke/MethodHandle" ∧ y.cls ≠ "java/lang/invoke/VarHandle")
    (hd : decode bytes pc = .ok (.invokestatic i, 3)) (pd : parseMethodDescriptor y.desc = some ⟨ps, r⟩) (hlen : argsL.length = ps.length) (hst : st = argsL.reverse ++ rest) (hz : Ls.size = mx)
    (K : Con l Z y bs mL rt' rm' argsL.toArray h n0 Q') (hf : rm'.frames + 1 ≤ rm.frames) (hl : (rest.map fun v => v.category).sum + (mL + 11) + rm'.locals ≤ rm.locals) (hc : k' ≤ rm.cells) (hn : n' ≤ rm.slots) (ek : k + rm'.cells = k') (en : n + rm'.slots = n') (hp : pc + 3 = pc')
    (g : ∀ v h', Q' v h' → G w Q h' k' n' pc' Ls (psh v rest)) : G w Q h k n pc Ls st := by
  subst hp ek en; intro T locs X eT N
  have hl0 : w.l = l := C.1
  subst hl0
  obtain ⟨v, vm₁, B, -, X', hQ, s'⟩ := Jvm.LawKit.callS X C.ex C.ow (mvT C.hZ w1) (mvT C.hZ w2) (mvT C.hZ w3) (mvT C.hZ w4) hy (backOf (W := (rest.map fun v => v.category).sum) (Q := fun v h L => Q' v h ∧ Fr n0 L) (K []) C.hZ w4 w3 (by rw [C.ro]; exact hf) (by rw [C.ro]; exact hl)) (g := mkF w.m pc Ls st) rfl (hz.trans C.ml.symm) (argsL := argsL) (rest := rest) (lenOf pd hlen) hst (by show 2 * 0 + _ ≤ _; omega) (C.dec hd) (fun _ _ => ⟨rfl, eT, by rw [C.ro]; exact hc, by rw [C.ro]; exact hn⟩)
  exact g_fin (T := T) (as := argsL.toArray) (A := (⟨T.setVm vm₁, locs, k, n⟩ : Pt)) C ⟨rfl, rfl, rfl⟩ X' hQ N g s'
theorem g_special (C : Cx w l Z own bytes mx rt nm rm n0) {y : MethodName} {i mL : Nat} {bs : ByteArray} {rm' : Room} {Q' : Option Value → Heap → Prop} {a : Addr} {argsL : List Value} {ps : List FieldType} {r : Option FieldType}
    (w1 : (Jvm.Cond.methodLink own i y).before a0 Z = true) (w2 : (Jvm.Cond.instanceMethod y).before a0 Z = true) (w3 : (Jvm.Cond.initialized y.cls).before a0 Z = true) (w4 : (Jvm.Cond.code y bs mL none).before a0 Z = true) (hy : y.cls ≠ "java/lang/invoke/MethodHandle" ∧ y.cls ≠ "java/lang/invoke/VarHandle") (hy1 : y.name = "<init>")
    (hd : decode bytes pc = .ok (.invokespecial i, 3)) (pd : parseMethodDescriptor y.desc = some ⟨ps, r⟩) (hlen : argsL.length = ps.length) (hst : st = argsL.reverse ++ .ref a :: rest) (hz : Ls.size = mx)
    (K : Con l Z y bs mL none rm' (.ref a :: argsL).toArray h n0 Q') (hf : rm'.frames + 1 ≤ rm.frames) (hl : (rest.map fun v => v.category).sum + (mL + 11) + rm'.locals ≤ rm.locals) (hc : k' ≤ rm.cells) (hn : n' ≤ rm.slots) (ek : k + rm'.cells = k') (en : n + rm'.slots = n') (hp : pc + 3 = pc')
    (g : ∀ v h', Q' v h' → G w Q h' k' n' pc' Ls (psh v rest)) : G w Q h k n pc Ls st := by
  subst hp ek en; intro T locs X eT N
  have hl0 : w.l = l := C.1
  subst hl0
  obtain ⟨v, vm₁, B, -, X', hQ, s'⟩ := X.specialBack C.ex hy1 C.ow (mvT C.hZ w1) (mvT C.hZ w2) (mvT C.hZ w4) hy (backOf (W := (rest.map fun v => v.category).sum) (Q := fun v h L => Q' v h ∧ Fr n0 L) (K []) C.hZ w4 w3 (by rw [C.ro]; exact hf) (by rw [C.ro]; exact hl)) (g := mkF w.m pc Ls st) rfl (hz.trans C.ml.symm) (Steps.refl _) (a := a) (argsL := argsL) (rest := rest) (lenOf pd hlen) hst (by show 2 * 0 + _ ≤ _; omega) (C.dec hd) (fun _ _ => ⟨rfl, eT, by rw [C.ro]; exact hc, by rw [C.ro]; exact hn⟩)
  exact g_fin (T := T) (as := argsL.toArray) (A := (⟨T.setVm vm₁, locs, k, n⟩ : Pt)) C ⟨rfl, rfl, rfl⟩ X' hQ N g (fun t r => s'.trans r)
theorem g_virtual (C : Cx w l Z own bytes mx rt nm rm n0) {y z : MethodName} {B : String} {i mL : Nat} {bs : ByteArray} {rt' : Option FieldType} {rm' : Room} {Q' : Option Value → Heap → Prop} {a : Addr} {argsL : List Value} {ps : List FieldType} {r : Option FieldType}
    (w1 : (Jvm.Cond.methodLink own i y).before a0 Z = true) (w2 : (Jvm.Cond.declares y).before a0 Z = true) (nf : ∀ {s : State}, Z.Warmed39 s.vm → NotFace s y) (ws : (Jvm.Cond.selects B y z).before a0 Z = true) (w5 : (Jvm.Cond.instanceMethod z).before a0 Z = true) (w3 : (Jvm.Cond.initialized z.cls).before a0 Z = true) (w4 : (Jvm.Cond.code z bs mL rt').before a0 Z = true) (hy : y.cls ≠ "java/lang/invoke/MethodHandle" ∧ y.cls ≠ "java/lang/invoke/VarHandle")
    (hd : decode bytes pc = .ok (.invokevirtual i, 3)) (pd : parseMethodDescriptor y.desc = some ⟨ps, r⟩) (hlen : argsL.length = ps.length) (hst : st = argsL.reverse ++ .ref a :: rest) (hz : Ls.size = mx) (E : Exa Z h a B)
    (K : Con l Z z bs mL rt' rm' (.ref a :: argsL).toArray h n0 Q') (hf : rm'.frames + 1 ≤ rm.frames) (hl : (rest.map fun v => v.category).sum + (mL + 11) + rm'.locals ≤ rm.locals) (hc : k' ≤ rm.cells) (hn : n' ≤ rm.slots) (ek : k + rm'.cells = k') (en : n + rm'.slots = n') (hp : pc + 3 = pc')
    (g : ∀ v h', Q' v h' → G w Q h' k' n' pc' Ls (psh v rest)) : G w Q h k n pc Ls st := by
  subst hp ek en; intro T locs X eT N
  have hl0 : w.l = l := C.1
  subst hl0
  obtain ⟨cq, kq, q1, q2, q3⟩ := isOf C.hZ eT E
  obtain ⟨v, vm₁, B, -, X', hQ, s'⟩ := X.virtualBack C.ex C.ow (mvT C.hZ w1) (mvT C.hZ w2) (nf C.hZ) (mvT C.hZ ws) (mvT C.hZ w5) hy (backOf (W := (rest.map fun v => v.category).sum) (Q := fun v h L => Q' v h ∧ Fr n0 L) (K []) C.hZ w4 w3 (by rw [C.ro]; exact hf) (by rw [C.ro]; exact hl)) q1 q3 (g := mkF w.m pc Ls st) rfl (hz.trans C.ml.symm) (Steps.refl _) (argsL := argsL) (rest := rest) (lenOf pd hlen) hst (by show 2 * 0 + _ ≤ _; omega) (C.dec hd) (fun _ _ => ⟨rfl, eT, by rw [C.ro]; exact hc, by rw [C.ro]; exact hn⟩)
  exact g_fin (T := T) (as := argsL.toArray) (A := (⟨T.setVm vm₁, locs, k, n⟩ : Pt)) C ⟨rfl, rfl, rfl⟩ X' hQ N g (fun t r => s'.trans r)
theorem nfSel {y : MethodName} {B : String} (ws : (Jvm.Cond.selects B y y).before a0 Z = true) : ∀ {s : State}, Z.Warmed39 s.vm → NotFace s y := fun hZ => notFace_of_selects (args := #[]) (mvT hZ ws)
theorem g_virtualUp (C : Cx w l Z own bytes mx rt nm rm n0) {y z : MethodName} {B owner : String} {i mL : Nat} {bs : ByteArray} {rt' : Option FieldType} {rm' : Room} {Q' : Option Value → Heap → Prop} {a : Addr} {argsL : List Value} {ps : List FieldType} {r : Option FieldType}
    (w1 : (Jvm.Cond.methodLink own i y).before a0 Z = true) (wm : (Jvm.Cond.sameMethod y.cls owner y.name y.desc).before a0 Z = true) (w2 : (Jvm.Cond.declares ⟨owner, y.name, y.desc⟩).before a0 Z = true) (ho : owner ≠ "java/lang/invoke/MethodHandle" ∧ owner ≠ "java/lang/invoke/VarHandle") (ws : (Jvm.Cond.selects B y z).before a0 Z = true) (w5 : (Jvm.Cond.instanceMethod z).before a0 Z = true) (w3 : (Jvm.Cond.initialized z.cls).before a0 Z = true) (w4 : (Jvm.Cond.code z bs mL rt').before a0 Z = true)
    (hd : decode bytes pc = .ok (.invokevirtual i, 3)) (pd : parseMethodDescriptor y.desc = some ⟨ps, r⟩) (hlen : argsL.length = ps.length) (hst : st = argsL.reverse ++ .ref a :: rest) (hz : Ls.size = mx) (E : Exa Z h a B)
    (K : Con l Z z bs mL rt' rm' (.ref a :: argsL).toArray h n0 Q') (hf : rm'.frames + 1 ≤ rm.frames) (hl : (rest.map fun v => v.category).sum + (mL + 11) + rm'.locals ≤ rm.locals) (hc : k' ≤ rm.cells) (hn : n' ≤ rm.slots) (ek : k + rm'.cells = k') (en : n + rm'.slots = n') (hp : pc + 3 = pc')
    (g : ∀ v h', Q' v h' → G w Q h' k' n' pc' Ls (psh v rest)) : G w Q h k n pc Ls st := by
  subst hp ek en; intro T locs X eT N
  have hl0 : w.l = l := C.1
  subst hl0
  obtain ⟨cq, kq, q1, q2, q3⟩ := isOf C.hZ eT E
  obtain ⟨v, vm₁, B, -, X', hQ, s'⟩ := X.virtualBackUp C.ex C.ow (mvT C.hZ w1) (mvT C.hZ wm) (mvT C.hZ w2) ho (mvT C.hZ ws) (mvT C.hZ w5) (backOf (W := (rest.map fun v => v.category).sum) (Q := fun v h L => Q' v h ∧ Fr n0 L) (K []) C.hZ w4 w3 (by rw [C.ro]; exact hf) (by rw [C.ro]; exact hl)) q1 q3 (g := mkF w.m pc Ls st) rfl (hz.trans C.ml.symm) (Steps.refl _) (argsL := argsL) (rest := rest) (lenOf pd hlen) hst (by show 2 * 0 + _ ≤ _; omega) (C.dec hd) (fun _ _ => ⟨rfl, eT, by rw [C.ro]; exact hc, by rw [C.ro]; exact hn⟩)
  exact g_fin (T := T) (as := argsL.toArray) (A := (⟨T.setVm vm₁, locs, k, n⟩ : Pt)) C ⟨rfl, rfl, rfl⟩ X' hQ N g (fun t r => s'.trans r)
theorem g_interface (C : Cx w l Z own bytes mx rt nm rm n0) {y z : MethodName} {B : String} {count : Nat} {i mL : Nat} {bs : ByteArray} {rt' : Option FieldType} {rm' : Room} {Q' : Option Value → Heap → Prop} {a : Addr} {argsL : List Value} {ps : List FieldType} {r : Option FieldType}
    (w1 : (Jvm.Cond.methodLink own i y).before a0 Z = true) (w2 : (Jvm.Cond.declares y).before a0 Z = true) (wf : (Jvm.Cond.interfaceMethod y.cls y.cls y.name y.desc).before a0 Z = true) (hfa : ((Jvm.Cond.interfaceMethod y.cls y.cls y.name y.desc).onTables && (Jvm.Cond.interfaceMethod y.cls y.cls y.name y.desc).keepsFace) = true) (ws : (Jvm.Cond.selects B y z).before a0 Z = true) (w5 : (Jvm.Cond.instanceMethod z).before a0 Z = true) (wp : (Jvm.Cond.publicMethod z).before a0 Z = true) (wu : (Jvm.Cond.unhidden B y.name y.desc).before a0 Z = true) (wk : (Jvm.Cond.castable B y.cls).before a0 Z = true) (w3 : (Jvm.Cond.initialized z.cls).before a0 Z = true) (w4 : (Jvm.Cond.code z bs mL rt').before a0 Z = true) (hy : y.cls ≠ "java/lang/invoke/MethodHandle" ∧ y.cls ≠ "java/lang/invoke/VarHandle")
    (hd : decode bytes pc = .ok (.invokeinterface i count, 5)) (pd : parseMethodDescriptor y.desc = some ⟨ps, r⟩) (hlen : argsL.length = ps.length) (hst : st = argsL.reverse ++ .ref a :: rest) (hz : Ls.size = mx) (E : Exa Z h a B)
    (K : Con l Z z bs mL rt' rm' (.ref a :: argsL).toArray h n0 Q') (hf : rm'.frames + 1 ≤ rm.frames) (hl : (rest.map fun v => v.category).sum + (mL + 11) + rm'.locals ≤ rm.locals) (hc : k' ≤ rm.cells) (hn : n' ≤ rm.slots) (ek : k + rm'.cells = k') (en : n + rm'.slots = n') (hp : pc + 5 = pc')
    (g : ∀ v h', Q' v h' → G w Q h' k' n' pc' Ls (psh v rest)) : G w Q h k n pc Ls st := by
  subst hp ek en; intro T locs X eT N
  have hl0 : w.l = l := C.1
  subst hl0
  obtain ⟨cq, kq, q1, q2, q3⟩ := isOf C.hZ eT E
  obtain ⟨v, vm₁, B, -, X', hQ, s'⟩ := X.interfaceBack C.ex C.ow (mvT C.hZ w1) (mvT C.hZ w2) (mvT C.hZ wf hfa) (mvT C.hZ ws) (mvT C.hZ w5) (mvT C.hZ wp) (mvT C.hZ wu) (mvT C.hZ wk) hy (backOf (W := (rest.map fun v => v.category).sum) (Q := fun v h L => Q' v h ∧ Fr n0 L) (K []) C.hZ w4 w3 (by rw [C.ro]; exact hf) (by rw [C.ro]; exact hl)) q1 q2 q3 (g := mkF w.m pc Ls st) rfl (hz.trans C.ml.symm) (Steps.refl _) (argsL := argsL) (rest := rest) (lenOf pd hlen) hst (by show 2 * 0 + _ ≤ _; omega) (C.dec hd) (fun _ _ => ⟨rfl, eT, by rw [C.ro]; exact hc, by rw [C.ro]; exact hn⟩)
  exact g_fin (T := T) (as := argsL.toArray) (A := (⟨T.setVm vm₁, locs, k, n⟩ : Pt)) C ⟨rfl, rfl, rfl⟩ X' hQ N g (fun t r => s'.trans r)
theorem g_private (C : Cx w l Z own bytes mx rt nm rm n0) {y : MethodName} {B : String} {kk i mL : Nat} {bs : ByteArray} {rt' : Option FieldType} {rm' : Room} {Q' : Option Value → Heap → Prop} {a : Addr} {argsL : List Value} {ps : List FieldType} {r : Option FieldType}
    (w1 : (Jvm.Cond.methodLink own i y).before a0 Z = true) (w5 : (Jvm.Cond.instanceMethod y).before a0 Z = true) (wi : (Jvm.Cond.instantiable y.cls kk).before a0 Z = true) (wp : (Jvm.Cond.privateMethod y).before a0 Z = true) (w3 : (Jvm.Cond.initialized y.cls).before a0 Z = true) (w4 : (Jvm.Cond.code y bs mL rt').before a0 Z = true) (hy : y.cls ≠ "java/lang/invoke/MethodHandle" ∧ y.cls ≠ "java/lang/invoke/VarHandle")
    (hd : decode bytes pc = .ok (.invokevirtual i, 3)) (pd : parseMethodDescriptor y.desc = some ⟨ps, r⟩) (hlen : argsL.length = ps.length) (hst : st = argsL.reverse ++ .ref a :: rest) (hz : Ls.size = mx) (E : Exa Z h a B)
    (K : Con l Z y bs mL rt' rm' (.ref a :: argsL).toArray h n0 Q') (hf : rm'.frames + 1 ≤ rm.frames) (hl : (rest.map fun v => v.category).sum + (mL + 11) + rm'.locals ≤ rm.locals) (hc : k' ≤ rm.cells) (hn : n' ≤ rm.slots) (ek : k + rm'.cells = k') (en : n + rm'.slots = n') (hp : pc + 3 = pc')
    (g : ∀ v h', Q' v h' → G w Q h' k' n' pc' Ls (psh v rest)) : G w Q h k n pc Ls st := by
  subst hp ek en; intro T locs X eT N
  have hl0 : w.l = l := C.1
  subst hl0
  obtain ⟨cq, q1, q2⟩ := E.cell
  have wi' : (Jvm.Cond.instantiable y.cls kk).before w.args w.s = true := mvT C.hZ wi
  obtain ⟨c2, k2, i1, i2, -, i4, -⟩ := Cond.instantiable_spec wi'
  have hni : k2.isInterface = false := (Bool.or_eq_false_iff.mp i4).1
  have hpv := Cond.privateMethod_at (mvP C.hZ wp (args := w.args))
  obtain ⟨v, vm₁, B, -, X', hQ, s'⟩ := X.privateBack C.ex C.ow (mvT C.hZ w1) (mvT C.hZ w5) (selects_self_of_private i1 i2 hni hpv (mvT C.hZ w5) hy) hpv (mvT C.hZ w4) hy (backOf (W := (rest.map fun v => v.category).sum) (Q := fun v h L => Q' v h ∧ Fr n0 L) (K []) C.hZ w4 w3 (by rw [C.ro]; exact hf) (by rw [C.ro]; exact hl)) (g := mkF w.m pc Ls st) rfl (hz.trans C.ml.symm) (Steps.refl _) (a := a) (by rw [eT]; exact q1) q2 (argsL := argsL) (rest := rest) (lenOf pd hlen) hst (by show 2 * 0 + _ ≤ _; omega) (C.dec hd) (fun _ _ => ⟨rfl, eT, by rw [C.ro]; exact hc, by rw [C.ro]; exact hn⟩)
  exact g_fin (T := T) (as := argsL.toArray) (A := (⟨T.setVm vm₁, locs, k, n⟩ : Pt)) C ⟨rfl, rfl, rfl⟩ X' hQ N g (fun t r => s'.trans r)
theorem g_lswHit (C : Cx w l Z own bytes mx rt nm rm n0) {df : Int} {prs : Array (Int × Int)} {len : Nat} {a o : Int} {i : Int32} (hd : decode bytes pc = .ok (.lookupswitch df prs, len)) (hs : st = .int i :: rest) (hso : (prs.toList.zip (prs.toList.drop 1)).all (fun (a, next) => a.1 < next.1) = true) (hf : prs.find? (·.1 == i.toInt) = some (a, o)) (ho : 0 ≤ (pc : Int) + o) (hp : ((pc : Int) + o).toNat = pc') (g : G w Q h k n pc' Ls rest) : G w Q h k n pc Ls st := by
  subst hp; exact g.adv fun T locs X _ t r => X.lookupswitchHit C.ex (g := mkF w.m pc Ls st) rfl hs (C.dec hd) hso hf ho t r
theorem g_lswMiss (C : Cx w l Z own bytes mx rt nm rm n0) {df : Int} {prs : Array (Int × Int)} {len : Nat} {i : Int32} (hd : decode bytes pc = .ok (.lookupswitch df prs, len)) (hs : st = .int i :: rest) (hso : (prs.toList.zip (prs.toList.drop 1)).all (fun (a, next) => a.1 < next.1) = true) (hf : prs.find? (·.1 == i.toInt) = none) (ho : 0 ≤ (pc : Int) + df) (hp : ((pc : Int) + df).toNat = pc') (g : G w Q h k n pc' Ls rest) : G w Q h k n pc Ls st := by
  subst hp; exact g.adv fun T locs X _ t r => X.lookupswitchMiss C.ex (g := mkF w.m pc Ls st) rfl hs (C.dec hd) hso hf ho t r
end Gs
theorem wd {Z : State} {a0 : Array Value} (hw : ∀ d ∈ tables_1, d.before a0 Z = true) (i : Nat) {d : Jvm.Cond} (e : tables_1[i]? = some d) : d.before a0 Z = true := hw _ (List.mem_of_getElem? e)
theorem own_fldInt {args : Array Value} {s : State} {t : Term} {a : Addr} {C f d : String} {k : Int32} (ev : t.eval args s none [] s = some (.ref a)) (h : (Jvm.Cond.eq (.field t C f d) (.int k)).value args s none s [] = some true) : Fld s s.heap a C f d (.int k) := by
  obtain ⟨x, y, hx, hy, k1, k2⟩ := cmp_v (Or.inl h)
  cases (Term.int_eval k).symm.trans hy
  obtain ⟨z, rfl⟩ : ∃ z, x = .int z := by simpa [Kin] using k2
  have e : z = k := by simpa [Jvm.Cond.value, hx, hy] using h
  subst e
  rw [fld_at ev] at hx
  exact Fld.start hx
theorem own_fldLong {args : Array Value} {s : State} {t : Term} {a : Addr} {C f d : String} {k : Int64} (ev : t.eval args s none [] s = some (.ref a)) (h : (Jvm.Cond.eq (.field t C f d) (.long k)).value args s none s [] = some true) : Fld s s.heap a C f d (.long k) := by
  obtain ⟨x, y, hx, hy, k1, k2⟩ := cmp_v (Or.inl h)
  cases (long_at k).symm.trans hy
  obtain ⟨z, rfl⟩ : ∃ z, x = .long z := by simpa [Kin] using k2
  have e : z = k := by simpa [Jvm.Cond.value, hx, hy] using h
  subst e
  rw [fld_at ev] at hx
  exact Fld.start hx
theorem own_staLong {args : Array Value} {s : State} {t : Term} {k : Int64} (h : (Jvm.Cond.eq t (.long k)).value args s none s [] = some true) : t.eval args s none [] s = some (.long k) := by
  obtain ⟨x, y, hx, hy, k1, k2⟩ := cmp_v (Or.inl h)
  cases (long_at k).symm.trans hy
  obtain ⟨z, rfl⟩ : ∃ z, x = .long z := by simpa [Kin] using k2
  have e : z = k := by simpa [Jvm.Cond.value, hx, hy] using h
  subst e
  exact hx
theorem own_staInt {args : Array Value} {s : State} {t : Term} {k : Int32} (h : (Jvm.Cond.eq t (.int k)).value args s none s [] = some true) : t.eval args s none [] s = some (.int k) := by
  obtain ⟨x, y, hx, hy, k1, k2⟩ := cmp_v (Or.inl h)
  cases (Term.int_eval k).symm.trans hy
  obtain ⟨z, rfl⟩ : ∃ z, x = .int z := by simpa [Kin] using k2
  have e : z = k := by simpa [Jvm.Cond.value, hx, hy] using h
  subst e
  exact hx
theorem own_ine {i j : Int32} (h : i ≠ j) : (Value.int i) ≠ .int j := fun q => h (by injection q)
theorem own_mask31 (x : Int32) : 0 ≤ (x &&& 2147483647).toInt ∧ (x &&& 2147483647).toInt < 2147483648 := by
  have := c_mask x 2147483647 31 (by decide) (by decide)
  rw [this]; omega
def En (Z : State) (s_BEGIN : Addr) (s_VALUE : Addr) : Prop := (Sta Z Z.heap "com/example/strictwire/strictwire/EventOrder$Next" "BEGIN" "Lcom/example/strictwire/strictwire/EventOrder$Next;" (.ref s_BEGIN)) ∧ (Exa Z Z.heap s_BEGIN "com/example/strictwire/strictwire/EventOrder$Next") ∧ (Sta Z Z.heap "com/example/strictwire/strictwire/EventOrder$Next" "VALUE" "Lcom/example/strictwire/strictwire/EventOrder$Next;" (.ref s_VALUE)) ∧ (Exa Z Z.heap s_VALUE "com/example/strictwire/strictwire/EventOrder$Next") ∧ (Fld Z Z.heap s_BEGIN "java/lang/Enum" "ordinal" "I" (.int (0 : Int32))) ∧ (Fld Z Z.heap s_VALUE "java/lang/Enum" "ordinal" "I" (.int (2 : Int32)))
def EO (Z : State) (n0 : Nat) (h : Heap) (a t e v f : Addr) (kt ke kv kf : ClassId) (nx dp t0 t1 e0 e1 v0 v1 : Int32) (f0 f1 : Int64) : Prop :=
  n0 ≤ a ∧ n0 ≤ t ∧ n0 ≤ e ∧ n0 ≤ v ∧ n0 ≤ f ∧ a ≠ t ∧ a ≠ e ∧ a ≠ v ∧ a ≠ f ∧ t ≠ e ∧ t ≠ v ∧ t ≠ f ∧ e ≠ v ∧ e ≠ f ∧ v ≠ f ∧ Exa Z h a "com/example/strictwire/strictwire/EventOrder" ∧ Fld Z h a "com/example/strictwire/strictwire/EventOrder" "types" "[B" (.ref t) ∧ Fld Z h a "com/example/strictwire/strictwire/EventOrder" "elementTypes" "[B" (.ref e) ∧ Fld Z h a "com/example/strictwire/strictwire/EventOrder" "valueTypes" "[B" (.ref v) ∧ Fld Z h a "com/example/strictwire/strictwire/EventOrder" "left" "[J" (.ref f) ∧ Fld Z h a "com/example/strictwire/strictwire/EventOrder" "next" "I" (.int nx) ∧ Fld Z h a "com/example/strictwire/strictwire/EventOrder" "depth" "I" (.int dp) ∧ Arv Z h t kt .byte (8 : Int32) [(.int t0), (.int t1), (.int (0 : Int32)), (.int (0 : Int32)), (.int (0 : Int32)), (.int (0 : Int32)), (.int (0 : Int32)), (.int (0 : Int32))] (.int (0 : Int32)) ∧ Arv Z h e ke .byte (8 : Int32) [(.int e0), (.int e1), (.int (0 : Int32)), (.int (0 : Int32)), (.int (0 : Int32)), (.int (0 : Int32)), (.int (0 : Int32)), (.int (0 : Int32))] (.int (0 : Int32)) ∧ Arv Z h v kv .byte (8 : Int32) [(.int v0), (.int v1), (.int (0 : Int32)), (.int (0 : Int32)), (.int (0 : Int32)), (.int (0 : Int32)), (.int (0 : Int32)), (.int (0 : Int32))] (.int (0 : Int32)) ∧ Arv Z h f kf .long (8 : Int32) [(.long f0), (.long f1), (.long (0 : Int64)), (.long (0 : Int64)), (.long (0 : Int64)), (.long (0 : Int64)), (.long (0 : Int64)), (.long (0 : Int64))] (.long (0 : Int64))
theorem d4_0 : decode jdk_37_method_2_code 0 = .ok (.aload_n 0, 1) := by decide +kernel
theorem d4_1 : decode jdk_37_method_2_code 1 = .ok (.getfield 7, 3) := by decide +kernel
theorem d4_4 : decode jdk_37_method_2_code 4 = .ok (.ireturn, 1) := by decide +kernel
theorem pn_2 : plainName "java/lang/Enum" = true := by first | (simp [plainName, overriddenIn]; done) | decide +kernel
set_option maxRecDepth 65536 in
set_option maxHeartbeats 40000000 in
theorem ord_BEGIN (l : Launch) (Z : State) (a0 : Array Value) (hw : ∀ d ∈ tables_1, d.before a0 Z = true) (n0 : Nat) (h : Heap) (O : Old Z n0 h) (s_BEGIN : Addr) (s_VALUE : Addr) (H : En Z s_BEGIN s_VALUE) : Con l Z (⟨"java/lang/Enum", "ordinal", "()I"⟩ : MethodName) jdk_37_method_2_code 1 (some .int) ({ frames := 0, cells := 0, slots := 0, locals := 0 } : Room) #[(.ref s_BEGIN)] h n0 (fun v h' => v = some (.int (0 : Int32)) ∧ h' = h) := by
  refine Con.mk (Ls := #[.val (.ref s_BEGIN)]) (plainFor_of_name pn_2) (fun m => by first | (simp [entryFrame, mkF, argsToLocals, Value.category]; done) | rfl) (fun w C => ?_)
  replace C : Cx w l Z "java/lang/Enum" jdk_37_method_2_code 1 (some .int) "ordinal" ({ frames := 0, cells := 0, slots := 0, locals := 0 } : Room) n0 := C
  obtain ⟨S_BEGIN, E_BEGIN, S_VALUE, E_VALUE, F_BEGIN_ordinal, F_VALUE_ordinal⟩ := id H
  refine g_aloadN C (pc' := 1) d4_0 rfl rfl rfl ?_
  refine g_getF C (pc' := 4) (wd hw 38 rfl) Via.refl d4_1 rfl (F_BEGIN_ordinal.ext O.2) rfl ?_
  exact g_ireturn C d4_4 rfl (Nat.le_of_ble_eq_true rfl) (Nat.le_of_ble_eq_true rfl) (⟨rfl, rfl⟩)
set_option maxRecDepth 65536 in
set_option maxHeartbeats 40000000 in
theorem ord_VALUE (l : Launch) (Z : State) (a0 : Array Value) (hw : ∀ d ∈ tables_1, d.before a0 Z = true) (n0 : Nat) (h : Heap) (O : Old Z n0 h) (s_BEGIN : Addr) (s_VALUE : Addr) (H : En Z s_BEGIN s_VALUE) : Con l Z (⟨"java/lang/Enum", "ordinal", "()I"⟩ : MethodName) jdk_37_method_2_code 1 (some .int) ({ frames := 0, cells := 0, slots := 0, locals := 0 } : Room) #[(.ref s_VALUE)] h n0 (fun v h' => v = some (.int (2 : Int32)) ∧ h' = h) := by
  refine Con.mk (Ls := #[.val (.ref s_VALUE)]) (plainFor_of_name pn_2) (fun m => by first | (simp [entryFrame, mkF, argsToLocals, Value.category]; done) | rfl) (fun w C => ?_)
  replace C : Cx w l Z "java/lang/Enum" jdk_37_method_2_code 1 (some .int) "ordinal" ({ frames := 0, cells := 0, slots := 0, locals := 0 } : Room) n0 := C
  obtain ⟨S_BEGIN, E_BEGIN, S_VALUE, E_VALUE, F_BEGIN_ordinal, F_VALUE_ordinal⟩ := id H
  refine g_aloadN C (pc' := 1) d4_0 rfl rfl rfl ?_
  refine g_getF C (pc' := 4) (wd hw 38 rfl) Via.refl d4_1 rfl (F_VALUE_ordinal.ext O.2) rfl ?_
  exact g_ireturn C d4_4 rfl (Nat.le_of_ble_eq_true rfl) (Nat.le_of_ble_eq_true rfl) (⟨rfl, rfl⟩)
theorem d2_0 : decode prog_6_method_1_code 0 = .ok (.aload_n 0, 1) := by decide +kernel
theorem d2_1 : decode prog_6_method_1_code 1 = .ok (.invokespecial 1, 3) := by decide +kernel
theorem d2_4 : decode prog_6_method_1_code 4 = .ok (.aload_n 0, 1) := by decide +kernel
theorem d2_5 : decode prog_6_method_1_code 5 = .ok (.bipush 8, 2) := by decide +kernel
theorem d2_7 : decode prog_6_method_1_code 7 = .ok (.newarray .byte, 2) := by decide +kernel
theorem d2_9 : decode prog_6_method_1_code 9 = .ok (.putfield 9, 3) := by decide +kernel
theorem d2_12 : decode prog_6_method_1_code 12 = .ok (.aload_n 0, 1) := by decide +kernel
theorem d2_13 : decode prog_6_method_1_code 13 = .ok (.bipush 8, 2) := by decide +kernel
theorem d2_15 : decode prog_6_method_1_code 15 = .ok (.newarray .byte, 2) := by decide +kernel
theorem d2_17 : decode prog_6_method_1_code 17 = .ok (.putfield 13, 3) := by decide +kernel
theorem d2_20 : decode prog_6_method_1_code 20 = .ok (.aload_n 0, 1) := by decide +kernel
theorem d2_21 : decode prog_6_method_1_code 21 = .ok (.bipush 8, 2) := by decide +kernel
theorem d2_23 : decode prog_6_method_1_code 23 = .ok (.newarray .byte, 2) := by decide +kernel
theorem d2_25 : decode prog_6_method_1_code 25 = .ok (.putfield 16, 3) := by decide +kernel
theorem d2_28 : decode prog_6_method_1_code 28 = .ok (.aload_n 0, 1) := by decide +kernel
theorem d2_29 : decode prog_6_method_1_code 29 = .ok (.bipush 8, 2) := by decide +kernel
theorem d2_31 : decode prog_6_method_1_code 31 = .ok (.newarray .long, 2) := by decide +kernel
theorem d2_33 : decode prog_6_method_1_code 33 = .ok (.putfield 19, 3) := by decide +kernel
theorem d2_36 : decode prog_6_method_1_code 36 = .ok (.aload_n 0, 1) := by decide +kernel
theorem d2_37 : decode prog_6_method_1_code 37 = .ok (.bipush 8, 2) := by decide +kernel
theorem d2_39 : decode prog_6_method_1_code 39 = .ok (.anewarray 23, 3) := by decide +kernel
theorem d2_42 : decode prog_6_method_1_code 42 = .ok (.putfield 25, 3) := by decide +kernel
theorem d2_45 : decode prog_6_method_1_code 45 = .ok (.aload_n 0, 1) := by decide +kernel
theorem d2_46 : decode prog_6_method_1_code 46 = .ok (.getstatic 29, 3) := by decide +kernel
theorem d2_49 : decode prog_6_method_1_code 49 = .ok (.invokevirtual 35, 3) := by decide +kernel
theorem pd_2 : parseMethodDescriptor "()I" = some ⟨[], some .int⟩ := by decide +kernel
theorem d2_52 : decode prog_6_method_1_code 52 = .ok (.putfield 39, 3) := by decide +kernel
theorem d2_55 : decode prog_6_method_1_code 55 = .ok (.return_, 1) := by decide +kernel
theorem pn_0 : plainName "com/example/strictwire/strictwire/EventOrder" = true := by first | (simp [plainName, overriddenIn]; done) | decide +kernel
set_option maxRecDepth 65536 in
set_option maxHeartbeats 40000000 in
theorem eo_init (l : Launch) (Z : State) (a0 : Array Value) (hw : ∀ d ∈ tables_1, d.before a0 Z = true) (n0 : Nat) (h : Heap) (O : Old Z n0 h) (s_BEGIN : Addr) (s_VALUE : Addr) (H : En Z s_BEGIN s_VALUE) (a : Addr) (ga : n0 ≤ a) (E0 : Exa Z h a "com/example/strictwire/strictwire/EventOrder") (F_types : Fld Z h a "com/example/strictwire/strictwire/EventOrder" "types" "[B" .null) (F_elementTypes : Fld Z h a "com/example/strictwire/strictwire/EventOrder" "elementTypes" "[B" .null) (F_valueTypes : Fld Z h a "com/example/strictwire/strictwire/EventOrder" "valueTypes" "[B" .null) (F_left : Fld Z h a "com/example/strictwire/strictwire/EventOrder" "left" "[J" .null) (F_ids : Fld Z h a "com/example/strictwire/strictwire/EventOrder" "ids" "[Lcom/example/strictwire/strictwire/FieldIds;" .null) (F_next : Fld Z h a "com/example/strictwire/strictwire/EventOrder" "next" "I" (.int (0 : Int32))) (F_depth : Fld Z h a "com/example/strictwire/strictwire/EventOrder" "depth" "I" (.int (0 : Int32))) : Con l Z (⟨"com/example/strictwire/strictwire/EventOrder", "<init>", "()V"⟩ : MethodName) prog_6_method_1_code 1 none ({ frames := 1, cells := 5, slots := 40, locals := 13 } : Room) #[(.ref a)] h n0 (fun r h' => r = none ∧ Keep h h' [a] ∧ ∃ t e v f kt ke kv kf, EO Z n0 h' a t e v f kt ke kv kf (0 : Int32) (0 : Int32) (0 : Int32) (0 : Int32) (0 : Int32) (0 : Int32) (0 : Int32) (0 : Int32) (0 : Int64) (0 : Int64)) := by
  refine Con.mk (Ls := #[.val (.ref a)]) (plainFor_of_name pn_0) (fun m => by first | (simp [entryFrame, mkF, argsToLocals, Value.category]; done) | rfl) (fun w C => ?_)
  replace C : Cx w l Z "com/example/strictwire/strictwire/EventOrder" prog_6_method_1_code 1 none "<init>" ({ frames := 1, cells := 5, slots := 40, locals := 13 } : Room) n0 := C
  obtain ⟨S_BEGIN, E_BEGIN, S_VALUE, E_VALUE, F_BEGIN_ordinal, F_VALUE_ordinal⟩ := id H
  refine g_aloadN C (pc' := 1) d2_0 rfl rfl rfl ?_
  refine g_initO C (pc' := 4) (wd hw 11 rfl) (wd hw 12 rfl) (wd hw 13 rfl) d2_1 rfl rfl (Nat.le_of_ble_eq_true rfl) (Nat.le_of_ble_eq_true rfl) rfl ?_
  refine g_aloadN C (pc' := 5) d2_4 rfl rfl rfl ?_
  refine g_bipush C (pc' := 7) (v := (8 : Int32)) d2_5 (by decide) rfl ?_
  refine g_newP C (pc' := 9) (k' := 1) (n' := 8) (cap := 8) (wd hw 14 rfl) d2_7 rfl (by decide) (by decide) (by decide) (by decide) (by decide) rfl rfl rfl (fun h1 b2 kA3 ex4 E5 A6 => ?_)
  have ne_a_b2 : a ≠ b2 := Nat.ne_of_lt (by rw [ex4]; exact E0.lt)
  have ge_b2 : n0 ≤ b2 := by rw [ex4]; exact O.1 ▸ O.2.1
  have sz_b2 : h.size ≤ b2 := by rw [ex4]; exact (Keep.refl h [a]).1
  have f7 := O.ext E5
  have f8 := E0.ext E5
  have f9 := (Keep.refl h [a]).ext E5
  have f10 := F_types.ext E5
  have f11 := F_elementTypes.ext E5
  have f12 := F_valueTypes.ext E5
  have f13 := F_left.ext E5
  have f14 := F_ids.ext E5
  have f15 := F_next.ext E5
  have f16 := F_depth.ext E5
  have A17 : Arv Z h1 b2 kA3 .byte (8 : Int32) [(.int (0 : Int32)), (.int (0 : Int32)), (.int (0 : Int32)), (.int (0 : Int32)), (.int (0 : Int32)), (.int (0 : Int32)), (.int (0 : Int32)), (.int (0 : Int32))] (.int (0 : Int32)) := A6.pad (pad_rep [] (.int (0 : Int32)) 8)
  refine g_putF C (pc' := 12) (ty := (.array .byte)) (wd hw 15 rfl) Via.refl d2_9 rfl f10 f8 (Or.inl (wd hw 16 rfl)) (wd hw 6 rfl) (by decide) rfl rfl ga rfl (fun h18 W19 => ?_)
  have f20 := f7.wr W19 ga
  have f21 := f8.wr W19
  have f22 := f9.wr W19 (Or.inl (List.mem_of_getElem? (i := 0) rfl))
  have f23 := f10.same W19
  have f24 := f11.other W19 (Or.inr (slot_ne (Or.inl (wd hw 18 rfl)) (Or.inl (wd hw 16 rfl)) (by decide) (t := (.array .byte)) (t' := (.array .byte)) (by decide) (by decide)))
  have f25 := f12.other W19 (Or.inr (slot_ne (Or.inl (wd hw 20 rfl)) (Or.inl (wd hw 16 rfl)) (by decide) (t := (.array .byte)) (t' := (.array .byte)) (by decide) (by decide)))
  have f26 := f13.other W19 (Or.inr (slot_ne (Or.inl (wd hw 23 rfl)) (Or.inl (wd hw 16 rfl)) (by decide) (t := (.array .long)) (t' := (.array .byte)) (by decide) (by decide)))
  have f27 := f14.other W19 (Or.inr (slot_ne (Or.inl (wd hw 27 rfl)) (Or.inl (wd hw 16 rfl)) (by decide) (t := (.array (.object "com/example/strictwire/strictwire/FieldIds"))) (t' := (.array .byte)) (by decide) (by decide)))
  have f28 := f15.other W19 (Or.inr (slot_ne (Or.inl (wd hw 41 rfl)) (Or.inl (wd hw 16 rfl)) (by decide) (t := .int) (t' := (.array .byte)) (by decide) (by decide)))
  have f29 := f16.other W19 (Or.inr (slot_ne (Or.inl (wd hw 53 rfl)) (Or.inl (wd hw 16 rfl)) (by decide) (t := .int) (t' := (.array .byte)) (by decide) (by decide)))
  have f30 := A17.other W19 (Ne.symm ne_a_b2)
  refine g_aloadN C (pc' := 13) d2_12 rfl rfl rfl ?_
  refine g_bipush C (pc' := 15) (v := (8 : Int32)) d2_13 (by decide) rfl ?_
  refine g_newP C (pc' := 17) (k' := 2) (n' := 16) (cap := 8) (wd hw 14 rfl) d2_15 rfl (by decide) (by decide) (by decide) (by decide) (by decide) rfl rfl rfl (fun h31 b32 kA33 ex34 E35 A36 => ?_)
  have ne_a_b32 : a ≠ b32 := Nat.ne_of_lt (by rw [ex34]; exact f21.lt)
  have ne_b2_b32 : b2 ≠ b32 := Nat.ne_of_lt (by rw [ex34]; exact f30.lt)
  have ge_b32 : n0 ≤ b32 := by rw [ex34]; exact f20.1 ▸ f20.2.1
  have sz_b32 : h.size ≤ b32 := by rw [ex34]; exact f22.1
  have f37 := f20.ext E35
  have f38 := f21.ext E35
  have f39 := f22.ext E35
  have f40 := f23.ext E35
  have f41 := f24.ext E35
  have f42 := f25.ext E35
  have f43 := f26.ext E35
  have f44 := f27.ext E35
  have f45 := f28.ext E35
  have f46 := f29.ext E35
  have f47 := f30.ext E35
  have A48 : Arv Z h31 b32 kA33 .byte (8 : Int32) [(.int (0 : Int32)), (.int (0 : Int32)), (.int (0 : Int32)), (.int (0 : Int32)), (.int (0 : Int32)), (.int (0 : Int32)), (.int (0 : Int32)), (.int (0 : Int32))] (.int (0 : Int32)) := A36.pad (pad_rep [] (.int (0 : Int32)) 8)
  refine g_putF C (pc' := 20) (ty := (.array .byte)) (wd hw 17 rfl) Via.refl d2_17 rfl f41 f38 (Or.inl (wd hw 18 rfl)) (wd hw 6 rfl) (by decide) rfl rfl ga rfl (fun h49 W50 => ?_)
  have f51 := f37.wr W50 ga
  have f52 := f38.wr W50
  have f53 := f39.wr W50 (Or.inl (List.mem_of_getElem? (i := 0) rfl))
  have f54 := f40.other W50 (Or.inr (slot_ne (Or.inl (wd hw 16 rfl)) (Or.inl (wd hw 18 rfl)) (by decide) (t := (.array .byte)) (t' := (.array .byte)) (by decide) (by decide)))
  have f55 := f41.same W50
  have f56 := f42.other W50 (Or.inr (slot_ne (Or.inl (wd hw 20 rfl)) (Or.inl (wd hw 18 rfl)) (by decide) (t := (.array .byte)) (t' := (.array .byte)) (by decide) (by decide)))
  have f57 := f43.other W50 (Or.inr (slot_ne (Or.inl (wd hw 23 rfl)) (Or.inl (wd hw 18 rfl)) (by decide) (t := (.array .long)) (t' := (.array .byte)) (by decide) (by decide)))
  have f58 := f44.other W50 (Or.inr (slot_ne (Or.inl (wd hw 27 rfl)) (Or.inl (wd hw 18 rfl)) (by decide) (t := (.array (.object "com/example/strictwire/strictwire/FieldIds"))) (t' := (.array .byte)) (by decide) (by decide)))
  have f59 := f45.other W50 (Or.inr (slot_ne (Or.inl (wd hw 41 rfl)) (Or.inl (wd hw 18 rfl)) (by decide) (t := .int) (t' := (.array .byte)) (by decide) (by decide)))
  have f60 := f46.other W50 (Or.inr (slot_ne (Or.inl (wd hw 53 rfl)) (Or.inl (wd hw 18 rfl)) (by decide) (t := .int) (t' := (.array .byte)) (by decide) (by decide)))
  have f61 := f47.other W50 (Ne.symm ne_a_b2)
  have f62 := A48.other W50 (Ne.symm ne_a_b32)
  refine g_aloadN C (pc' := 21) d2_20 rfl rfl rfl ?_
  refine g_bipush C (pc' := 23) (v := (8 : Int32)) d2_21 (by decide) rfl ?_
  refine g_newP C (pc' := 25) (k' := 3) (n' := 24) (cap := 8) (wd hw 14 rfl) d2_23 rfl (by decide) (by decide) (by decide) (by decide) (by decide) rfl rfl rfl (fun h63 b64 kA65 ex66 E67 A68 => ?_)
  have ne_a_b64 : a ≠ b64 := Nat.ne_of_lt (by rw [ex66]; exact f52.lt)
  have ne_b2_b64 : b2 ≠ b64 := Nat.ne_of_lt (by rw [ex66]; exact f61.lt)
  have ne_b32_b64 : b32 ≠ b64 := Nat.ne_of_lt (by rw [ex66]; exact f62.lt)
  have ge_b64 : n0 ≤ b64 := by rw [ex66]; exact f51.1 ▸ f51.2.1
  have sz_b64 : h.size ≤ b64 := by rw [ex66]; exact f53.1
  have f69 := f51.ext E67
  have f70 := f52.ext E67
  have f71 := f53.ext E67
  have f72 := f54.ext E67
  have f73 := f55.ext E67
  have f74 := f56.ext E67
  have f75 := f57.ext E67
  have f76 := f58.ext E67
  have f77 := f59.ext E67
  have f78 := f60.ext E67
  have f79 := f61.ext E67
  have f80 := f62.ext E67
  have A81 : Arv Z h63 b64 kA65 .byte (8 : Int32) [(.int (0 : Int32)), (.int (0 : Int32)), (.int (0 : Int32)), (.int (0 : Int32)), (.int (0 : Int32)), (.int (0 : Int32)), (.int (0 : Int32)), (.int (0 : Int32))] (.int (0 : Int32)) := A68.pad (pad_rep [] (.int (0 : Int32)) 8)
  refine g_putF C (pc' := 28) (ty := (.array .byte)) (wd hw 19 rfl) Via.refl d2_25 rfl f74 f70 (Or.inl (wd hw 20 rfl)) (wd hw 6 rfl) (by decide) rfl rfl ga rfl (fun h82 W83 => ?_)
  have f84 := f69.wr W83 ga
  have f85 := f70.wr W83
  have f86 := f71.wr W83 (Or.inl (List.mem_of_getElem? (i := 0) rfl))
  have f87 := f72.other W83 (Or.inr (slot_ne (Or.inl (wd hw 16 rfl)) (Or.inl (wd hw 20 rfl)) (by decide) (t := (.array .byte)) (t' := (.array .byte)) (by decide) (by decide)))
  have f88 := f73.other W83 (Or.inr (slot_ne (Or.inl (wd hw 18 rfl)) (Or.inl (wd hw 20 rfl)) (by decide) (t := (.array .byte)) (t' := (.array .byte)) (by decide) (by decide)))
  have f89 := f74.same W83
  have f90 := f75.other W83 (Or.inr (slot_ne (Or.inl (wd hw 23 rfl)) (Or.inl (wd hw 20 rfl)) (by decide) (t := (.array .long)) (t' := (.array .byte)) (by decide) (by decide)))
  have f91 := f76.other W83 (Or.inr (slot_ne (Or.inl (wd hw 27 rfl)) (Or.inl (wd hw 20 rfl)) (by decide) (t := (.array (.object "com/example/strictwire/strictwire/FieldIds"))) (t' := (.array .byte)) (by decide) (by decide)))
  have f92 := f77.other W83 (Or.inr (slot_ne (Or.inl (wd hw 41 rfl)) (Or.inl (wd hw 20 rfl)) (by decide) (t := .int) (t' := (.array .byte)) (by decide) (by decide)))
  have f93 := f78.other W83 (Or.inr (slot_ne (Or.inl (wd hw 53 rfl)) (Or.inl (wd hw 20 rfl)) (by decide) (t := .int) (t' := (.array .byte)) (by decide) (by decide)))
  have f94 := f79.other W83 (Ne.symm ne_a_b2)
  have f95 := f80.other W83 (Ne.symm ne_a_b32)
  have f96 := A81.other W83 (Ne.symm ne_a_b64)
  refine g_aloadN C (pc' := 29) d2_28 rfl rfl rfl ?_
  refine g_bipush C (pc' := 31) (v := (8 : Int32)) d2_29 (by decide) rfl ?_
  refine g_newP C (pc' := 33) (k' := 4) (n' := 32) (cap := 8) (wd hw 21 rfl) d2_31 rfl (by decide) (by decide) (by decide) (by decide) (by decide) rfl rfl rfl (fun h97 b98 kA99 ex100 E101 A102 => ?_)
  have ne_a_b98 : a ≠ b98 := Nat.ne_of_lt (by rw [ex100]; exact f85.lt)
  have ne_b2_b98 : b2 ≠ b98 := Nat.ne_of_lt (by rw [ex100]; exact f94.lt)
  have ne_b32_b98 : b32 ≠ b98 := Nat.ne_of_lt (by rw [ex100]; exact f95.lt)
  have ne_b64_b98 : b64 ≠ b98 := Nat.ne_of_lt (by rw [ex100]; exact f96.lt)
  have ge_b98 : n0 ≤ b98 := by rw [ex100]; exact f84.1 ▸ f84.2.1
  have sz_b98 : h.size ≤ b98 := by rw [ex100]; exact f86.1
  have f103 := f84.ext E101
  have f104 := f85.ext E101
  have f105 := f86.ext E101
  have f106 := f87.ext E101
  have f107 := f88.ext E101
  have f108 := f89.ext E101
  have f109 := f90.ext E101
  have f110 := f91.ext E101
  have f111 := f92.ext E101
  have f112 := f93.ext E101
  have f113 := f94.ext E101
  have f114 := f95.ext E101
  have f115 := f96.ext E101
  have A116 : Arv Z h97 b98 kA99 .long (8 : Int32) [(.long (0 : Int64)), (.long (0 : Int64)), (.long (0 : Int64)), (.long (0 : Int64)), (.long (0 : Int64)), (.long (0 : Int64)), (.long (0 : Int64)), (.long (0 : Int64))] (.long (0 : Int64)) := A102.pad (pad_rep [] (.long (0 : Int64)) 8)
  refine g_putF C (pc' := 36) (ty := (.array .long)) (wd hw 22 rfl) Via.refl d2_33 rfl f109 f104 (Or.inl (wd hw 23 rfl)) (wd hw 6 rfl) (by decide) rfl rfl ga rfl (fun h117 W118 => ?_)
  have f119 := f103.wr W118 ga
  have f120 := f104.wr W118
  have f121 := f105.wr W118 (Or.inl (List.mem_of_getElem? (i := 0) rfl))
  have f122 := f106.other W118 (Or.inr (slot_ne (Or.inl (wd hw 16 rfl)) (Or.inl (wd hw 23 rfl)) (by decide) (t := (.array .byte)) (t' := (.array .long)) (by decide) (by decide)))
  have f123 := f107.other W118 (Or.inr (slot_ne (Or.inl (wd hw 18 rfl)) (Or.inl (wd hw 23 rfl)) (by decide) (t := (.array .byte)) (t' := (.array .long)) (by decide) (by decide)))
  have f124 := f108.other W118 (Or.inr (slot_ne (Or.inl (wd hw 20 rfl)) (Or.inl (wd hw 23 rfl)) (by decide) (t := (.array .byte)) (t' := (.array .long)) (by decide) (by decide)))
  have f125 := f109.same W118
  have f126 := f110.other W118 (Or.inr (slot_ne (Or.inl (wd hw 27 rfl)) (Or.inl (wd hw 23 rfl)) (by decide) (t := (.array (.object "com/example/strictwire/strictwire/FieldIds"))) (t' := (.array .long)) (by decide) (by decide)))
  have f127 := f111.other W118 (Or.inr (slot_ne (Or.inl (wd hw 41 rfl)) (Or.inl (wd hw 23 rfl)) (by decide) (t := .int) (t' := (.array .long)) (by decide) (by decide)))
  have f128 := f112.other W118 (Or.inr (slot_ne (Or.inl (wd hw 53 rfl)) (Or.inl (wd hw 23 rfl)) (by decide) (t := .int) (t' := (.array .long)) (by decide) (by decide)))
  have f129 := f113.other W118 (Ne.symm ne_a_b2)
  have f130 := f114.other W118 (Ne.symm ne_a_b32)
  have f131 := f115.other W118 (Ne.symm ne_a_b64)
  have f132 := A116.other W118 (Ne.symm ne_a_b98)
  refine g_aloadN C (pc' := 37) d2_36 rfl rfl rfl ?_
  refine g_bipush C (pc' := 39) (v := (8 : Int32)) d2_37 (by decide) rfl ?_
  refine g_newR C (pc' := 42) (k' := 5) (n' := 40) (cap := 8) (wd hw 24 rfl) (wd hw 25 rfl) d2_39 rfl (by decide) (by decide) (by decide) (by decide) (by decide) rfl rfl rfl (fun h133 b134 kA135 ex136 E137 A138 Ov139 => ?_)
  have ne_a_b134 : a ≠ b134 := Nat.ne_of_lt (by rw [ex136]; exact f120.lt)
  have ne_b2_b134 : b2 ≠ b134 := Nat.ne_of_lt (by rw [ex136]; exact f129.lt)
  have ne_b32_b134 : b32 ≠ b134 := Nat.ne_of_lt (by rw [ex136]; exact f130.lt)
  have ne_b64_b134 : b64 ≠ b134 := Nat.ne_of_lt (by rw [ex136]; exact f131.lt)
  have ne_b98_b134 : b98 ≠ b134 := Nat.ne_of_lt (by rw [ex136]; exact f132.lt)
  have ge_b134 : n0 ≤ b134 := by rw [ex136]; exact f119.1 ▸ f119.2.1
  have sz_b134 : h.size ≤ b134 := by rw [ex136]; exact f121.1
  have f140 := f119.ext E137
  have f141 := f120.ext E137
  have f142 := f121.ext E137
  have f143 := f122.ext E137
  have f144 := f123.ext E137
  have f145 := f124.ext E137
  have f146 := f125.ext E137
  have f147 := f126.ext E137
  have f148 := f127.ext E137
  have f149 := f128.ext E137
  have f150 := f129.ext E137
  have f151 := f130.ext E137
  have f152 := f131.ext E137
  have f153 := f132.ext E137
  have A154 : Arv Z h133 b134 kA135 (.object "com/example/strictwire/strictwire/FieldIds") (8 : Int32) [.null, .null, .null, .null, .null, .null, .null, .null] .null := A138.pad (pad_rep [] .null 8)
  refine g_putF C (pc' := 45) (ty := (.array (.object "com/example/strictwire/strictwire/FieldIds"))) (wd hw 26 rfl) Via.refl d2_42 rfl f147 f141 (Or.inl (wd hw 27 rfl)) (wd hw 6 rfl) (by decide) rfl rfl ga rfl (fun h155 W156 => ?_)
  have f157 := f140.wr W156 ga
  have f158 := f141.wr W156
  have f159 := f142.wr W156 (Or.inl (List.mem_of_getElem? (i := 0) rfl))
  have f160 := f143.other W156 (Or.inr (slot_ne (Or.inl (wd hw 16 rfl)) (Or.inl (wd hw 27 rfl)) (by decide) (t := (.array .byte)) (t' := (.array (.object "com/example/strictwire/strictwire/FieldIds"))) (by decide) (by decide)))
  have f161 := f144.other W156 (Or.inr (slot_ne (Or.inl (wd hw 18 rfl)) (Or.inl (wd hw 27 rfl)) (by decide) (t := (.array .byte)) (t' := (.array (.object "com/example/strictwire/strictwire/FieldIds"))) (by decide) (by decide)))
  have f162 := f145.other W156 (Or.inr (slot_ne (Or.inl (wd hw 20 rfl)) (Or.inl (wd hw 27 rfl)) (by decide) (t := (.array .byte)) (t' := (.array (.object "com/example/strictwire/strictwire/FieldIds"))) (by decide) (by decide)))
  have f163 := f146.other W156 (Or.inr (slot_ne (Or.inl (wd hw 23 rfl)) (Or.inl (wd hw 27 rfl)) (by decide) (t := (.array .long)) (t' := (.array (.object "com/example/strictwire/strictwire/FieldIds"))) (by decide) (by decide)))
  have f164 := f147.same W156
  have f165 := f148.other W156 (Or.inr (slot_ne (Or.inl (wd hw 41 rfl)) (Or.inl (wd hw 27 rfl)) (by decide) (t := .int) (t' := (.array (.object "com/example/strictwire/strictwire/FieldIds"))) (by decide) (by decide)))
  have f166 := f149.other W156 (Or.inr (slot_ne (Or.inl (wd hw 53 rfl)) (Or.inl (wd hw 27 rfl)) (by decide) (t := .int) (t' := (.array (.object "com/example/strictwire/strictwire/FieldIds"))) (by decide) (by decide)))
  have f167 := f150.other W156 (Ne.symm ne_a_b2)
  have f168 := f151.other W156 (Ne.symm ne_a_b32)
  have f169 := f152.other W156 (Ne.symm ne_a_b64)
  have f170 := f153.other W156 (Ne.symm ne_a_b98)
  have f171 := A154.other W156 (Ne.symm ne_a_b134)
  refine g_aloadN C (pc' := 46) d2_45 rfl rfl rfl ?_
  refine g_getS C (pc' := 49) (wd hw 28 rfl) Via.refl d2_46 (S_BEGIN.ext f157.2) rfl ?_
  refine g_virtualUp C (pc' := 52) (k' := 5) (n' := 40) (argsL := []) (rest := [(.ref a)]) (wd hw 31 rfl) (wd hw 32 rfl) (wd hw 33 rfl) (by decide) (wd hw 35 rfl) (wd hw 34 rfl) (wd hw 36 rfl) (wd hw 37 rfl) d2_49 pd_2 rfl rfl rfl (E_BEGIN.ext f157.2) (ord_BEGIN l Z a0 hw n0 h155 f157 s_BEGIN s_VALUE H) (Nat.le_of_ble_eq_true rfl) (Nat.le_of_ble_eq_true rfl) (Nat.le_of_ble_eq_true rfl) (Nat.le_of_ble_eq_true rfl) rfl rfl rfl (fun v173 h172 q174 => ?_)
  obtain ⟨rfl, eh172⟩ := q174
  subst h172
  show G w _ h155 5 40 52 #[.val (.ref a)] [(.int (0 : Int32)), (.ref a)]
  refine g_putF C (pc' := 55) (ty := .int) (wd hw 40 rfl) Via.refl d2_52 rfl f165 f158 (Or.inl (wd hw 41 rfl)) (wd hw 6 rfl) (by decide) rfl rfl ga rfl (fun h175 W176 => ?_)
  have f177 := f157.wr W176 ga
  have f178 := f158.wr W176
  have f179 := f159.wr W176 (Or.inl (List.mem_of_getElem? (i := 0) rfl))
  have f180 := f160.other W176 (Or.inr (slot_ne (Or.inl (wd hw 16 rfl)) (Or.inl (wd hw 41 rfl)) (by decide) (t := (.array .byte)) (t' := .int) (by decide) (by decide)))
  have f181 := f161.other W176 (Or.inr (slot_ne (Or.inl (wd hw 18 rfl)) (Or.inl (wd hw 41 rfl)) (by decide) (t := (.array .byte)) (t' := .int) (by decide) (by decide)))
  have f182 := f162.other W176 (Or.inr (slot_ne (Or.inl (wd hw 20 rfl)) (Or.inl (wd hw 41 rfl)) (by decide) (t := (.array .byte)) (t' := .int) (by decide) (by decide)))
  have f183 := f163.other W176 (Or.inr (slot_ne (Or.inl (wd hw 23 rfl)) (Or.inl (wd hw 41 rfl)) (by decide) (t := (.array .long)) (t' := .int) (by decide) (by decide)))
  have f184 := f164.other W176 (Or.inr (slot_ne (Or.inl (wd hw 27 rfl)) (Or.inl (wd hw 41 rfl)) (by decide) (t := (.array (.object "com/example/strictwire/strictwire/FieldIds"))) (t' := .int) (by decide) (by decide)))
  have f185 := f165.same W176
  have f186 := f166.other W176 (Or.inr (slot_ne (Or.inl (wd hw 53 rfl)) (Or.inl (wd hw 41 rfl)) (by decide) (t := .int) (t' := .int) (by decide) (by decide)))
  have f187 := f167.other W176 (Ne.symm ne_a_b2)
  have f188 := f168.other W176 (Ne.symm ne_a_b32)
  have f189 := f169.other W176 (Ne.symm ne_a_b64)
  have f190 := f170.other W176 (Ne.symm ne_a_b98)
  have f191 := f171.other W176 (Ne.symm ne_a_b134)
  exact g_return C d2_55 rfl (Nat.le_of_ble_eq_true rfl) (Nat.le_of_ble_eq_true rfl) (⟨rfl, f179, b2, b32, b64, b98, kA3, kA33, kA65, kA99, ga, ge_b2, ge_b32, ge_b64, ge_b98, ne_a_b2, ne_a_b32, ne_a_b64, ne_a_b98, ne_b2_b32, ne_b2_b64, ne_b2_b98, ne_b32_b64, ne_b32_b98, ne_b64_b98, f178, f180, f181, f182, f183, f185, f186, f187, f188, f189, f190⟩)
theorem d6_0 : decode prog_6_method_17_code 0 = .ok (.aload_n 0, 1) := by decide +kernel
theorem d6_1 : decode prog_6_method_17_code 1 = .ok (.getfield 47, 3) := by decide +kernel
theorem d6_4 : decode prog_6_method_17_code 4 = .ok (.aload_n 0, 1) := by decide +kernel
theorem d6_5 : decode prog_6_method_17_code 5 = .ok (.getfield 9, 3) := by decide +kernel
theorem d6_8 : decode prog_6_method_17_code 8 = .ok (.arraylength, 1) := by decide +kernel
theorem d6_9 : decode prog_6_method_17_code 9 = .ok (.if_icmp .ne 7, 3) := by decide +kernel
theorem d6_16 : decode prog_6_method_17_code 16 = .ok (.aload_n 0, 1) := by decide +kernel
theorem d6_17 : decode prog_6_method_17_code 17 = .ok (.getfield 47, 3) := by decide +kernel
theorem d6_20 : decode prog_6_method_17_code 20 = .ok (.istore 6, 2) := by decide +kernel
theorem d6_22 : decode prog_6_method_17_code 22 = .ok (.aload_n 0, 1) := by decide +kernel
theorem d6_23 : decode prog_6_method_17_code 23 = .ok (.getfield 9, 3) := by decide +kernel
theorem d6_26 : decode prog_6_method_17_code 26 = .ok (.iload 6, 2) := by decide +kernel
theorem d6_28 : decode prog_6_method_17_code 28 = .ok (.iload_n 1, 1) := by decide +kernel
theorem d6_29 : decode prog_6_method_17_code 29 = .ok (.bastore, 1) := by decide +kernel
theorem d6_30 : decode prog_6_method_17_code 30 = .ok (.aload_n 0, 1) := by decide +kernel
theorem d6_31 : decode prog_6_method_17_code 31 = .ok (.getfield 13, 3) := by decide +kernel
theorem d6_34 : decode prog_6_method_17_code 34 = .ok (.iload 6, 2) := by decide +kernel
theorem d6_36 : decode prog_6_method_17_code 36 = .ok (.iload_n 2, 1) := by decide +kernel
theorem d6_37 : decode prog_6_method_17_code 37 = .ok (.bastore, 1) := by decide +kernel
theorem d6_38 : decode prog_6_method_17_code 38 = .ok (.aload_n 0, 1) := by decide +kernel
theorem d6_39 : decode prog_6_method_17_code 39 = .ok (.getfield 16, 3) := by decide +kernel
theorem d6_42 : decode prog_6_method_17_code 42 = .ok (.iload 6, 2) := by decide +kernel
theorem d6_44 : decode prog_6_method_17_code 44 = .ok (.iload_n 3, 1) := by decide +kernel
theorem d6_45 : decode prog_6_method_17_code 45 = .ok (.bastore, 1) := by decide +kernel
theorem d6_46 : decode prog_6_method_17_code 46 = .ok (.aload_n 0, 1) := by decide +kernel
theorem d6_47 : decode prog_6_method_17_code 47 = .ok (.getfield 19, 3) := by decide +kernel
theorem d6_50 : decode prog_6_method_17_code 50 = .ok (.iload 6, 2) := by decide +kernel
theorem d6_52 : decode prog_6_method_17_code 52 = .ok (.lload 4, 2) := by decide +kernel
theorem d6_54 : decode prog_6_method_17_code 54 = .ok (.lastore, 1) := by decide +kernel
theorem d6_55 : decode prog_6_method_17_code 55 = .ok (.aload_n 0, 1) := by decide +kernel
theorem d6_56 : decode prog_6_method_17_code 56 = .ok (.dup, 1) := by decide +kernel
theorem d6_57 : decode prog_6_method_17_code 57 = .ok (.getfield 47, 3) := by decide +kernel
theorem d6_60 : decode prog_6_method_17_code 60 = .ok (.iconst 1, 1) := by decide +kernel
theorem d6_61 : decode prog_6_method_17_code 61 = .ok (.iadd, 1) := by decide +kernel
theorem d6_62 : decode prog_6_method_17_code 62 = .ok (.putfield 47, 3) := by decide +kernel
theorem d6_65 : decode prog_6_method_17_code 65 = .ok (.iload_n 1, 1) := by decide +kernel
theorem d6_66 : decode prog_6_method_17_code 66 = .ok (.bipush 12, 2) := by decide +kernel
theorem d6_68 : decode prog_6_method_17_code 68 = .ok (.if_icmp .ne 16, 3) := by decide +kernel
theorem d6_84 : decode prog_6_method_17_code 84 = .ok (.aload_n 0, 1) := by decide +kernel
theorem d6_85 : decode prog_6_method_17_code 85 = .ok (.lload 4, 2) := by decide +kernel
theorem d6_87 : decode prog_6_method_17_code 87 = .ok (.lconst 0, 1) := by decide +kernel
theorem d6_88 : decode prog_6_method_17_code 88 = .ok (.lcmp, 1) := by decide +kernel
theorem d6_89 : decode prog_6_method_17_code 89 = .ok (.ifCond .le 12, 3) := by decide +kernel
theorem d6_92 : decode prog_6_method_17_code 92 = .ok (.getstatic 55, 3) := by decide +kernel
theorem d6_95 : decode prog_6_method_17_code 95 = .ok (.invokevirtual 35, 3) := by decide +kernel
theorem d6_98 : decode prog_6_method_17_code 98 = .ok (.goto 9, 3) := by decide +kernel
theorem d6_107 : decode prog_6_method_17_code 107 = .ok (.putfield 39, 3) := by decide +kernel
theorem d6_110 : decode prog_6_method_17_code 110 = .ok (.iload 6, 2) := by decide +kernel
theorem d6_112 : decode prog_6_method_17_code 112 = .ok (.ireturn, 1) := by decide +kernel
set_option maxRecDepth 65536 in
set_option maxHeartbeats 40000000 in
theorem push_0 (l : Launch) (Z : State) (a0 : Array Value) (hw : ∀ d ∈ tables_1, d.before a0 Z = true) (n0 : Nat) (h : Heap) (O : Old Z n0 h) (s_BEGIN : Addr) (s_VALUE : Addr) (H : En Z s_BEGIN s_VALUE) (a t e v f : Addr) (kt ke kv kf : ClassId) (nx t0 t1 e0 e1 v0 v1 : Int32) (f0 f1 : Int64) (ty el vl : Int32) (cn : Int64) (hty : nar .byte ty = ty) (hel : nar .byte el = el) (hvl : nar .byte vl = vl) (h12 : ¬ ty = 12) (hcn : 0 < cn) (P : EO Z n0 h a t e v f kt ke kv kf nx (0 : Int32) t0 t1 e0 e1 v0 v1 f0 f1) : Con l Z (⟨"com/example/strictwire/strictwire/EventOrder", "push", "(BBBJ)I"⟩ : MethodName) prog_6_method_17_code 7 (some .int) ({ frames := 1, cells := 0, slots := 0, locals := 13 } : Room) #[(.ref a), (.int ty), (.int el), (.int vl), (.long cn)] h n0 (fun r h' => r = some (.int (0 : Int32)) ∧ Keep h h' [a, t, e, v, f] ∧ EO Z n0 h' a t e v f kt ke kv kf (2 : Int32) (1 : Int32) ty t1 el e1 vl v1 cn f1) := by
  refine Con.mk (Ls := #[.val (.ref a), .val (.int ty), .val (.int el), .val (.int vl), .val (.long cn), .second, .unset]) (plainFor_of_name pn_0) (fun m => by first | (simp [entryFrame, mkF, argsToLocals, Value.category]; done) | rfl) (fun w C => ?_)
  replace C : Cx w l Z "com/example/strictwire/strictwire/EventOrder" prog_6_method_17_code 7 (some .int) "push" ({ frames := 1, cells := 0, slots := 0, locals := 13 } : Room) n0 := C
  obtain ⟨S_BEGIN, E_BEGIN, S_VALUE, E_VALUE, F_BEGIN_ordinal, F_VALUE_ordinal⟩ := id H
  obtain ⟨ga, gt, ge, gv, gf, n_a_t, n_a_e, n_a_v, n_a_f, n_t_e, n_t_v, n_t_f, n_e_v, n_e_f, n_v_f, E0, Ft, Fe, Fv, Ff, Fn, Fd, At, Ae, Av, Af⟩ := P
  refine g_aloadN C (pc' := 1) d6_0 rfl rfl rfl ?_
  refine g_getF C (pc' := 4) (wd hw 52 rfl) Via.refl d6_1 rfl Fd rfl ?_
  refine g_aloadN C (pc' := 5) d6_4 rfl rfl rfl ?_
  refine g_getF C (pc' := 8) (wd hw 15 rfl) Via.refl d6_5 rfl Ft rfl ?_
  refine g_alen C (pc' := 9) d6_8 rfl At rfl ?_
  refine g_icY C (pc' := 16) d6_9 rfl (by decide) (by decide) rfl ?_
  refine g_aloadN C (pc' := 17) d6_16 rfl rfl rfl ?_
  refine g_getF C (pc' := 20) (wd hw 52 rfl) Via.refl d6_17 rfl Fd rfl ?_
  refine g_istore C (pc' := 22) (Ls' := #[.val (.ref a), .val (.int ty), .val (.int el), .val (.int vl), .val (.long cn), .second, .val (.int (0 : Int32))]) d6_20 rfl rfl rfl ?_
  refine g_aloadN C (pc' := 23) d6_22 rfl rfl rfl ?_
  refine g_getF C (pc' := 26) (wd hw 15 rfl) Via.refl d6_23 rfl Ft rfl ?_
  refine g_iload C (pc' := 28) d6_26 rfl rfl ?_
  refine g_iloadN C (pc' := 29) d6_28 rfl rfl ?_
  refine g_bastore C (pc' := 30) d6_29 rfl At (by decide) (by decide) gt rfl (fun h192 W193 => ?_)
  rw [show nar .byte ty = ty from hty] at W193
  have f194 := O.wr W193 gt
  have f195 := E0.wr W193
  have f196 := Ft.other W193 (Or.inl n_a_t)
  have f197 := (arv_put At (hty ▸ fits_nar_byte ty) W193 (i := 0) rfl (Nat.le_of_ble_eq_true rfl) : Arv Z h192 t kt .byte (8 : Int32) [(.int ty), (.int t1), (.int (0 : Int32)), (.int (0 : Int32)), (.int (0 : Int32)), (.int (0 : Int32)), (.int (0 : Int32)), (.int (0 : Int32))] (.int (0 : Int32)))
  have f198 := Fe.other W193 (Or.inl n_a_t)
  have f199 := Ae.other W193 (Ne.symm n_t_e)
  have f200 := Fv.other W193 (Or.inl n_a_t)
  have f201 := Av.other W193 (Ne.symm n_t_v)
  have f202 := Ff.other W193 (Or.inl n_a_t)
  have f203 := Af.other W193 (Ne.symm n_t_f)
  have f204 := Fn.other W193 (Or.inl n_a_t)
  have f205 := Fd.other W193 (Or.inl n_a_t)
  have f206 := (Keep.refl h [a, t, e, v, f]).wr W193 (Or.inl (List.mem_of_getElem? (i := 1) rfl))
  refine g_aloadN C (pc' := 31) d6_30 rfl rfl rfl ?_
  refine g_getF C (pc' := 34) (wd hw 17 rfl) Via.refl d6_31 rfl f198 rfl ?_
  refine g_iload C (pc' := 36) d6_34 rfl rfl ?_
  refine g_iloadN C (pc' := 37) d6_36 rfl rfl ?_
  refine g_bastore C (pc' := 38) d6_37 rfl f199 (by decide) (by decide) ge rfl (fun h207 W208 => ?_)
  rw [show nar .byte el = el from hel] at W208
  have f209 := f194.wr W208 ge
  have f210 := f195.wr W208
  have f211 := f196.other W208 (Or.inl n_a_e)
  have f212 := f197.other W208 n_t_e
  have f213 := f198.other W208 (Or.inl n_a_e)
  have f214 := (arv_put f199 (hel ▸ fits_nar_byte el) W208 (i := 0) rfl (Nat.le_of_ble_eq_true rfl) : Arv Z h207 e ke .byte (8 : Int32) [(.int el), (.int e1), (.int (0 : Int32)), (.int (0 : Int32)), (.int (0 : Int32)), (.int (0 : Int32)), (.int (0 : Int32)), (.int (0 : Int32))] (.int (0 : Int32)))
  have f215 := f200.other W208 (Or.inl n_a_e)
  have f216 := f201.other W208 (Ne.symm n_e_v)
  have f217 := f202.other W208 (Or.inl n_a_e)
  have f218 := f203.other W208 (Ne.symm n_e_f)
  have f219 := f204.other W208 (Or.inl n_a_e)
  have f220 := f205.other W208 (Or.inl n_a_e)
  have f221 := f206.wr W208 (Or.inl (List.mem_of_getElem? (i := 2) rfl))
  refine g_aloadN C (pc' := 39) d6_38 rfl rfl rfl ?_
  refine g_getF C (pc' := 42) (wd hw 19 rfl) Via.refl d6_39 rfl f215 rfl ?_
  refine g_iload C (pc' := 44) d6_42 rfl rfl ?_
  refine g_iloadN C (pc' := 45) d6_44 rfl rfl ?_
  refine g_bastore C (pc' := 46) d6_45 rfl f216 (by decide) (by decide) gv rfl (fun h222 W223 => ?_)
  rw [show nar .byte vl = vl from hvl] at W223
  have f224 := f209.wr W223 gv
  have f225 := f210.wr W223
  have f226 := f211.other W223 (Or.inl n_a_v)
  have f227 := f212.other W223 n_t_v
  have f228 := f213.other W223 (Or.inl n_a_v)
  have f229 := f214.other W223 n_e_v
  have f230 := f215.other W223 (Or.inl n_a_v)
  have f231 := (arv_put f216 (hvl ▸ fits_nar_byte vl) W223 (i := 0) rfl (Nat.le_of_ble_eq_true rfl) : Arv Z h222 v kv .byte (8 : Int32) [(.int vl), (.int v1), (.int (0 : Int32)), (.int (0 : Int32)), (.int (0 : Int32)), (.int (0 : Int32)), (.int (0 : Int32)), (.int (0 : Int32))] (.int (0 : Int32)))
  have f232 := f217.other W223 (Or.inl n_a_v)
  have f233 := f218.other W223 (Ne.symm n_v_f)
  have f234 := f219.other W223 (Or.inl n_a_v)
  have f235 := f220.other W223 (Or.inl n_a_v)
  have f236 := f221.wr W223 (Or.inl (List.mem_of_getElem? (i := 3) rfl))
  refine g_aloadN C (pc' := 47) d6_46 rfl rfl rfl ?_
  refine g_getF C (pc' := 50) (wd hw 22 rfl) Via.refl d6_47 rfl f232 rfl ?_
  refine g_iload C (pc' := 52) d6_50 rfl rfl ?_
  refine g_lload C (pc' := 54) d6_52 rfl rfl ?_
  refine g_lastore C (pc' := 55) d6_54 rfl f233 (by decide) (by decide) gf rfl (fun h237 W238 => ?_)
  have f239 := f224.wr W238 gf
  have f240 := f225.wr W238
  have f241 := f226.other W238 (Or.inl n_a_f)
  have f242 := f227.other W238 n_t_f
  have f243 := f228.other W238 (Or.inl n_a_f)
  have f244 := f229.other W238 n_e_f
  have f245 := f230.other W238 (Or.inl n_a_f)
  have f246 := f231.other W238 n_v_f
  have f247 := f232.other W238 (Or.inl n_a_f)
  have f248 := (arv_put f233 rfl W238 (i := 0) rfl (Nat.le_of_ble_eq_true rfl) : Arv Z h237 f kf .long (8 : Int32) [(.long cn), (.long f1), (.long (0 : Int64)), (.long (0 : Int64)), (.long (0 : Int64)), (.long (0 : Int64)), (.long (0 : Int64)), (.long (0 : Int64))] (.long (0 : Int64)))
  have f249 := f234.other W238 (Or.inl n_a_f)
  have f250 := f235.other W238 (Or.inl n_a_f)
  have f251 := f236.wr W238 (Or.inl (List.mem_of_getElem? (i := 4) rfl))
  refine g_aloadN C (pc' := 56) d6_55 rfl rfl rfl ?_
  refine g_dup C (pc' := 57) d6_56 rfl rfl rfl ?_
  refine g_getF C (pc' := 60) (wd hw 52 rfl) Via.refl d6_57 rfl f250 rfl ?_
  refine g_iconst C (pc' := 61) (v := (1 : Int32)) d6_60 (by decide) rfl ?_
  refine g_iadd C (pc' := 62) d6_61 rfl rfl ?_
  rw [show ((0 : Int32) + (1 : Int32)) = (1 : Int32) from by decide]
  refine g_putF C (pc' := 65) (ty := .int) (wd hw 52 rfl) Via.refl d6_62 rfl f250 f240 (Or.inl (wd hw 53 rfl)) (wd hw 6 rfl) (by decide) rfl rfl ga rfl (fun h252 W253 => ?_)
  have f254 := f239.wr W253 ga
  have f255 := f240.wr W253
  have f256 := f241.other W253 (Or.inr (slot_ne (Or.inl (wd hw 16 rfl)) (Or.inl (wd hw 53 rfl)) (by decide) (t := (.array .byte)) (t' := .int) (by decide) (by decide)))
  have f257 := f242.other W253 (Ne.symm n_a_t)
  have f258 := f243.other W253 (Or.inr (slot_ne (Or.inl (wd hw 18 rfl)) (Or.inl (wd hw 53 rfl)) (by decide) (t := (.array .byte)) (t' := .int) (by decide) (by decide)))
  have f259 := f244.other W253 (Ne.symm n_a_e)
  have f260 := f245.other W253 (Or.inr (slot_ne (Or.inl (wd hw 20 rfl)) (Or.inl (wd hw 53 rfl)) (by decide) (t := (.array .byte)) (t' := .int) (by decide) (by decide)))
  have f261 := f246.other W253 (Ne.symm n_a_v)
  have f262 := f247.other W253 (Or.inr (slot_ne (Or.inl (wd hw 23 rfl)) (Or.inl (wd hw 53 rfl)) (by decide) (t := (.array .long)) (t' := .int) (by decide) (by decide)))
  have f263 := f248.other W253 (Ne.symm n_a_f)
  have f264 := f249.other W253 (Or.inr (slot_ne (Or.inl (wd hw 41 rfl)) (Or.inl (wd hw 53 rfl)) (by decide) (t := .int) (t' := .int) (by decide) (by decide)))
  have f265 := f250.same W253
  have f266 := f251.wr W253 (Or.inl (List.mem_of_getElem? (i := 0) rfl))
  refine g_iloadN C (pc' := 66) d6_65 rfl rfl ?_
  refine g_bipush C (pc' := 68) (v := (12 : Int32)) d6_66 (by decide) rfl ?_
  refine g_icY C (pc' := 84) d6_68 rfl (says_t (cd := .ne) (h12)) (by decide) rfl ?_
  refine g_aloadN C (pc' := 85) d6_84 rfl rfl rfl ?_
  refine g_lload C (pc' := 87) d6_85 rfl rfl ?_
  refine g_lconst C (pc' := 88) (v := (0 : Int64)) d6_87 (by decide) rfl ?_
  refine g_lcmp C (pc' := 89) d6_88 rfl rfl ?_
  refine g_ifN C (pc' := 92) d6_89 rfl (says_f (cd := .le) (fun q => q ((lw_gt _ _).mpr hcn))) rfl ?_
  refine g_getS C (pc' := 95) (wd hw 54 rfl) Via.refl d6_92 (S_VALUE.ext f254.2) rfl ?_
  refine g_virtualUp C (pc' := 98) (k' := 0) (n' := 0) (argsL := []) (rest := [(.ref a)]) (wd hw 31 rfl) (wd hw 32 rfl) (wd hw 33 rfl) (by decide) (wd hw 35 rfl) (wd hw 34 rfl) (wd hw 36 rfl) (wd hw 37 rfl) d6_95 pd_2 rfl rfl rfl (E_VALUE.ext f254.2) (ord_VALUE l Z a0 hw n0 h252 f254 s_BEGIN s_VALUE H) (Nat.le_of_ble_eq_true rfl) (Nat.le_of_ble_eq_true rfl) (Nat.le_of_ble_eq_true rfl) (Nat.le_of_ble_eq_true rfl) rfl rfl rfl (fun v268 h267 q269 => ?_)
  obtain ⟨rfl, eh267⟩ := q269
  subst h267
  show G w _ h252 0 0 98 #[.val (.ref a), .val (.int ty), .val (.int el), .val (.int vl), .val (.long cn), .second, .val (.int (0 : Int32))] [(.int (2 : Int32)), (.ref a)]
  refine g_goto C (pc' := 107) d6_98 (by decide) rfl ?_
  refine g_putF C (pc' := 110) (ty := .int) (wd hw 40 rfl) Via.refl d6_107 rfl f264 f255 (Or.inl (wd hw 41 rfl)) (wd hw 6 rfl) (by decide) rfl rfl ga rfl (fun h270 W271 => ?_)
  have f272 := f254.wr W271 ga
  have f273 := f255.wr W271
  have f274 := f256.other W271 (Or.inr (slot_ne (Or.inl (wd hw 16 rfl)) (Or.inl (wd hw 41 rfl)) (by decide) (t := (.array .byte)) (t' := .int) (by decide) (by decide)))
  have f275 := f257.other W271 (Ne.symm n_a_t)
  have f276 := f258.other W271 (Or.inr (slot_ne (Or.inl (wd hw 18 rfl)) (Or.inl (wd hw 41 rfl)) (by decide) (t := (.array .byte)) (t' := .int) (by decide) (by decide)))
  have f277 := f259.other W271 (Ne.symm n_a_e)
  have f278 := f260.other W271 (Or.inr (slot_ne (Or.inl (wd hw 20 rfl)) (Or.inl (wd hw 41 rfl)) (by decide) (t := (.array .byte)) (t' := .int) (by decide) (by decide)))
  have f279 := f261.other W271 (Ne.symm n_a_v)
  have f280 := f262.other W271 (Or.inr (slot_ne (Or.inl (wd hw 23 rfl)) (Or.inl (wd hw 41 rfl)) (by decide) (t := (.array .long)) (t' := .int) (by decide) (by decide)))
  have f281 := f263.other W271 (Ne.symm n_a_f)
  have f282 := f264.same W271
  have f283 := f265.other W271 (Or.inr (slot_ne (Or.inl (wd hw 53 rfl)) (Or.inl (wd hw 41 rfl)) (by decide) (t := .int) (t' := .int) (by decide) (by decide)))
  have f284 := f266.wr W271 (Or.inl (List.mem_of_getElem? (i := 0) rfl))
  refine g_iload C (pc' := 112) d6_110 rfl rfl ?_
  exact g_ireturn C d6_112 rfl (Nat.le_of_ble_eq_true rfl) (Nat.le_of_ble_eq_true rfl) (⟨rfl, f284, ⟨ga, gt, ge, gv, gf, n_a_t, n_a_e, n_a_v, n_a_f, n_t_e, n_t_v, n_t_f, n_e_v, n_e_f, n_v_f, f273, f274, f276, f278, f280, f282, f283, f275, f277, f279, f281⟩⟩)
theorem d5_0 : decode prog_6_method_11_code 0 = .ok (.aload_n 0, 1) := by decide +kernel
theorem d5_1 : decode prog_6_method_11_code 1 = .ok (.bipush 13, 2) := by decide +kernel
theorem d5_3 : decode prog_6_method_11_code 3 = .ok (.iload_n 1, 1) := by decide +kernel
theorem d5_4 : decode prog_6_method_11_code 4 = .ok (.iload_n 2, 1) := by decide +kernel
theorem d5_5 : decode prog_6_method_11_code 5 = .ok (.ldc2_w 77, 3) := by decide +kernel
theorem d5_8 : decode prog_6_method_11_code 8 = .ok (.iload_n 3, 1) := by decide +kernel
theorem d5_9 : decode prog_6_method_11_code 9 = .ok (.i2l, 1) := by decide +kernel
theorem d5_10 : decode prog_6_method_11_code 10 = .ok (.lmul, 1) := by decide +kernel
theorem d5_11 : decode prog_6_method_11_code 11 = .ok (.invokevirtual 82, 3) := by decide +kernel
theorem pd_4 : parseMethodDescriptor "(BBBJ)I" = some ⟨[.byte, .byte, .byte, .long], some .int⟩ := by decide +kernel
theorem d5_14 : decode prog_6_method_11_code 14 = .ok (.pop, 1) := by decide +kernel
theorem d5_15 : decode prog_6_method_11_code 15 = .ok (.return_, 1) := by decide +kernel
set_option maxRecDepth 65536 in
set_option maxHeartbeats 40000000 in
theorem omap_0 (l : Launch) (Z : State) (a0 : Array Value) (hw : ∀ d ∈ tables_1, d.before a0 Z = true) (n0 : Nat) (h : Heap) (O : Old Z n0 h) (s_BEGIN : Addr) (s_VALUE : Addr) (H : En Z s_BEGIN s_VALUE) (a t e v f : Addr) (kt ke kv kf : ClassId) (nx t0 t1 e0 e1 v0 v1 : Int32) (f0 f1 : Int64) (el vl sz : Int32) (hel : nar .byte el = el) (hvl : nar .byte vl = vl) (hcn : 0 < (2 : Int64) * sz.toInt64) (P : EO Z n0 h a t e v f kt ke kv kf nx (0 : Int32) t0 t1 e0 e1 v0 v1 f0 f1) : Con l Z (⟨"com/example/strictwire/strictwire/EventOrder", "openMap", "(BBI)V"⟩ : MethodName) prog_6_method_11_code 4 none ({ frames := 2, cells := 0, slots := 0, locals := 31 } : Room) #[(.ref a), (.int el), (.int vl), (.int sz)] h n0 (fun r h' => r = none ∧ Keep h h' [a, t, e, v, f] ∧ EO Z n0 h' a t e v f kt ke kv kf (2 : Int32) (1 : Int32) (13 : Int32) t1 el e1 vl v1 ((2 : Int64) * sz.toInt64) f1) := by
  refine Con.mk (Ls := #[.val (.ref a), .val (.int el), .val (.int vl), .val (.int sz)]) (plainFor_of_name pn_0) (fun m => by first | (simp [entryFrame, mkF, argsToLocals, Value.category]; done) | rfl) (fun w C => ?_)
  replace C : Cx w l Z "com/example/strictwire/strictwire/EventOrder" prog_6_method_11_code 4 none "openMap" ({ frames := 2, cells := 0, slots := 0, locals := 31 } : Room) n0 := C
  obtain ⟨S_BEGIN, E_BEGIN, S_VALUE, E_VALUE, F_BEGIN_ordinal, F_VALUE_ordinal⟩ := id H
  obtain ⟨ga, gt, ge, gv, gf, n_a_t, n_a_e, n_a_v, n_a_f, n_t_e, n_t_v, n_t_f, n_e_v, n_e_f, n_v_f, E0, Ft, Fe, Fv, Ff, Fn, Fd, At, Ae, Av, Af⟩ := P
  refine g_aloadN C (pc' := 1) d5_0 rfl rfl rfl ?_
  refine g_bipush C (pc' := 3) (v := (13 : Int32)) d5_1 (by decide) rfl ?_
  refine g_iloadN C (pc' := 4) d5_3 rfl rfl ?_
  refine g_iloadN C (pc' := 5) d5_4 rfl rfl ?_
  refine g_ldc2Long C (pc' := 8) (wd hw 47 rfl) d5_5 rfl ?_
  refine g_iloadN C (pc' := 9) d5_8 rfl rfl ?_
  refine g_i2l C (pc' := 10) d5_9 rfl rfl ?_
  refine g_lmul C (pc' := 11) d5_10 rfl rfl ?_
  refine g_private C (pc' := 14) (k' := 0) (n' := 0) (argsL := [(.int (13 : Int32)), (.int el), (.int vl), (.long ((2 : Int64) * sz.toInt64))]) (rest := []) (wd hw 48 rfl) (wd hw 49 rfl) (wd hw 6 rfl) (wd hw 50 rfl) (wd hw 7 rfl) (wd hw 51 rfl) (by decide) d5_11 pd_4 rfl rfl rfl E0 (push_0 l Z a0 hw n0 h O s_BEGIN s_VALUE H a t e v f kt ke kv kf nx t0 t1 e0 e1 v0 v1 f0 f1 (13 : Int32) el vl ((2 : Int64) * sz.toInt64) (by decide) hel hvl (by decide) hcn ⟨ga, gt, ge, gv, gf, n_a_t, n_a_e, n_a_v, n_a_f, n_t_e, n_t_v, n_t_f, n_e_v, n_e_f, n_v_f, E0, Ft, Fe, Fv, Ff, Fn, Fd, At, Ae, Av, Af⟩) (Nat.le_of_ble_eq_true rfl) (Nat.le_of_ble_eq_true rfl) (Nat.le_of_ble_eq_true rfl) (Nat.le_of_ble_eq_true rfl) rfl rfl rfl (fun v286 h285 q287 => ?_)
  obtain ⟨rfl, Kp, Pp⟩ := q287
  have f288 := O.keep Kp (allS ga (allS gt (allS ge (allS gv (allS gf all0)))))
  have f289 := E0.keep Kp
  have f290 := (Keep.refl h [a, t, e, v, f]).trans Kp (allS (Or.inl (List.mem_of_getElem? (i := 0) rfl)) (allS (Or.inl (List.mem_of_getElem? (i := 1) rfl)) (allS (Or.inl (List.mem_of_getElem? (i := 2) rfl)) (allS (Or.inl (List.mem_of_getElem? (i := 3) rfl)) (allS (Or.inl (List.mem_of_getElem? (i := 4) rfl)) all0)))))
  obtain ⟨qga, qgt, qge, qgv, qgf, qn_a_t, qn_a_e, qn_a_v, qn_a_f, qn_t_e, qn_t_v, qn_t_f, qn_e_v, qn_e_f, qn_v_f, qE0, qFt, qFe, qFv, qFf, qFn, qFd, qAt, qAe, qAv, qAf⟩ := Pp
  show G w _ h285 0 0 14 #[.val (.ref a), .val (.int el), .val (.int vl), .val (.int sz)] [(.int (0 : Int32))]
  refine g_pop C (pc' := 15) d5_14 rfl rfl rfl ?_
  exact g_return C d5_15 rfl (Nat.le_of_ble_eq_true rfl) (Nat.le_of_ble_eq_true rfl) (⟨rfl, f290, ⟨qga, qgt, qge, qgv, qgf, qn_a_t, qn_a_e, qn_a_v, qn_a_f, qn_t_e, qn_t_v, qn_t_f, qn_e_v, qn_e_f, qn_v_f, qE0, qFt, qFe, qFv, qFf, qFn, qFd, qAt, qAe, qAv, qAf⟩⟩)
theorem d8_0 : decode prog_6_method_10_code 0 = .ok (.aload_n 0, 1) := by decide +kernel
theorem d8_1 : decode prog_6_method_10_code 1 = .ok (.iload_n 1, 1) := by decide +kernel
theorem d8_2 : decode prog_6_method_10_code 2 = .ok (.iload_n 2, 1) := by decide +kernel
theorem d8_3 : decode prog_6_method_10_code 3 = .ok (.iconst 0, 1) := by decide +kernel
theorem d8_4 : decode prog_6_method_10_code 4 = .ok (.iload_n 3, 1) := by decide +kernel
theorem d8_5 : decode prog_6_method_10_code 5 = .ok (.i2l, 1) := by decide +kernel
theorem d8_6 : decode prog_6_method_10_code 6 = .ok (.invokevirtual 82, 3) := by decide +kernel
theorem d8_9 : decode prog_6_method_10_code 9 = .ok (.pop, 1) := by decide +kernel
theorem d8_10 : decode prog_6_method_10_code 10 = .ok (.return_, 1) := by decide +kernel
set_option maxRecDepth 65536 in
set_option maxHeartbeats 40000000 in
theorem ocol_0 (l : Launch) (Z : State) (a0 : Array Value) (hw : ∀ d ∈ tables_1, d.before a0 Z = true) (n0 : Nat) (h : Heap) (O : Old Z n0 h) (s_BEGIN : Addr) (s_VALUE : Addr) (H : En Z s_BEGIN s_VALUE) (a t e v f : Addr) (kt ke kv kf : ClassId) (nx t0 t1 e0 e1 v0 v1 : Int32) (f0 f1 : Int64) (ty el sz : Int32) (hty : nar .byte ty = ty) (hel : nar .byte el = el) (h12 : ¬ ty = 12) (hcn : 0 < sz.toInt64) (P : EO Z n0 h a t e v f kt ke kv kf nx (0 : Int32) t0 t1 e0 e1 v0 v1 f0 f1) : Con l Z (⟨"com/example/strictwire/strictwire/EventOrder", "openCollection", "(BBI)V"⟩ : MethodName) prog_6_method_10_code 4 none ({ frames := 2, cells := 0, slots := 0, locals := 31 } : Room) #[(.ref a), (.int ty), (.int el), (.int sz)] h n0 (fun r h' => r = none ∧ Keep h h' [a, t, e, v, f] ∧ EO Z n0 h' a t e v f kt ke kv kf (2 : Int32) (1 : Int32) ty t1 el e1 (0 : Int32) v1 sz.toInt64 f1) := by
  refine Con.mk (Ls := #[.val (.ref a), .val (.int ty), .val (.int el), .val (.int sz)]) (plainFor_of_name pn_0) (fun m => by first | (simp [entryFrame, mkF, argsToLocals, Value.category]; done) | rfl) (fun w C => ?_)
  replace C : Cx w l Z "com/example/strictwire/strictwire/EventOrder" prog_6_method_10_code 4 none "openCollection" ({ frames := 2, cells := 0, slots := 0, locals := 31 } : Room) n0 := C
  obtain ⟨S_BEGIN, E_BEGIN, S_VALUE, E_VALUE, F_BEGIN_ordinal, F_VALUE_ordinal⟩ := id H
  obtain ⟨ga, gt, ge, gv, gf, n_a_t, n_a_e, n_a_v, n_a_f, n_t_e, n_t_v, n_t_f, n_e_v, n_e_f, n_v_f, E0, Ft, Fe, Fv, Ff, Fn, Fd, At, Ae, Av, Af⟩ := P
  refine g_aloadN C (pc' := 1) d8_0 rfl rfl rfl ?_
  refine g_iloadN C (pc' := 2) d8_1 rfl rfl ?_
  refine g_iloadN C (pc' := 3) d8_2 rfl rfl ?_
  refine g_iconst C (pc' := 4) (v := (0 : Int32)) d8_3 (by decide) rfl ?_
  refine g_iloadN C (pc' := 5) d8_4 rfl rfl ?_
  refine g_i2l C (pc' := 6) d8_5 rfl rfl ?_
  refine g_private C (pc' := 9) (k' := 0) (n' := 0) (argsL := [(.int ty), (.int el), (.int (0 : Int32)), (.long sz.toInt64)]) (rest := []) (wd hw 48 rfl) (wd hw 49 rfl) (wd hw 6 rfl) (wd hw 50 rfl) (wd hw 7 rfl) (wd hw 51 rfl) (by decide) d8_6 pd_4 rfl rfl rfl E0 (push_0 l Z a0 hw n0 h O s_BEGIN s_VALUE H a t e v f kt ke kv kf nx t0 t1 e0 e1 v0 v1 f0 f1 ty el (0 : Int32) sz.toInt64 hty hel (by decide) h12 hcn ⟨ga, gt, ge, gv, gf, n_a_t, n_a_e, n_a_v, n_a_f, n_t_e, n_t_v, n_t_f, n_e_v, n_e_f, n_v_f, E0, Ft, Fe, Fv, Ff, Fn, Fd, At, Ae, Av, Af⟩) (Nat.le_of_ble_eq_true rfl) (Nat.le_of_ble_eq_true rfl) (Nat.le_of_ble_eq_true rfl) (Nat.le_of_ble_eq_true rfl) rfl rfl rfl (fun v292 h291 q293 => ?_)
  obtain ⟨rfl, Kp, Pp⟩ := q293
  have f294 := O.keep Kp (allS ga (allS gt (allS ge (allS gv (allS gf all0)))))
  have f295 := E0.keep Kp
  have f296 := (Keep.refl h [a, t, e, v, f]).trans Kp (allS (Or.inl (List.mem_of_getElem? (i := 0) rfl)) (allS (Or.inl (List.mem_of_getElem? (i := 1) rfl)) (allS (Or.inl (List.mem_of_getElem? (i := 2) rfl)) (allS (Or.inl (List.mem_of_getElem? (i := 3) rfl)) (allS (Or.inl (List.mem_of_getElem? (i := 4) rfl)) all0)))))
  obtain ⟨qga, qgt, qge, qgv, qgf, qn_a_t, qn_a_e, qn_a_v, qn_a_f, qn_t_e, qn_t_v, qn_t_f, qn_e_v, qn_e_f, qn_v_f, qE0, qFt, qFe, qFv, qFf, qFn, qFd, qAt, qAe, qAv, qAf⟩ := Pp
  show G w _ h291 0 0 9 #[.val (.ref a), .val (.int ty), .val (.int el), .val (.int sz)] [(.int (0 : Int32))]
  refine g_pop C (pc' := 10) d8_9 rfl rfl rfl ?_
  exact g_return C d8_10 rfl (Nat.le_of_ble_eq_true rfl) (Nat.le_of_ble_eq_true rfl) (⟨rfl, f296, ⟨qga, qgt, qge, qgv, qgf, qn_a_t, qn_a_e, qn_a_v, qn_a_f, qn_t_e, qn_t_v, qn_t_f, qn_e_v, qn_e_f, qn_v_f, qE0, qFt, qFe, qFv, qFf, qFn, qFd, qAt, qAe, qAv, qAf⟩⟩)
set_option maxRecDepth 65536 in
set_option maxHeartbeats 40000000 in
theorem push_1 (l : Launch) (Z : State) (a0 : Array Value) (hw : ∀ d ∈ tables_1, d.before a0 Z = true) (n0 : Nat) (h : Heap) (O : Old Z n0 h) (s_BEGIN : Addr) (s_VALUE : Addr) (H : En Z s_BEGIN s_VALUE) (a t e v f : Addr) (kt ke kv kf : ClassId) (nx t0 t1 e0 e1 v0 v1 : Int32) (f0 f1 : Int64) (ty el vl : Int32) (cn : Int64) (hty : nar .byte ty = ty) (hel : nar .byte el = el) (hvl : nar .byte vl = vl) (h12 : ¬ ty = 12) (hcn : 0 < cn) (P : EO Z n0 h a t e v f kt ke kv kf nx (1 : Int32) t0 t1 e0 e1 v0 v1 f0 f1) : Con l Z (⟨"com/example/strictwire/strictwire/EventOrder", "push", "(BBBJ)I"⟩ : MethodName) prog_6_method_17_code 7 (some .int) ({ frames := 1, cells := 0, slots := 0, locals := 13 } : Room) #[(.ref a), (.int ty), (.int el), (.int vl), (.long cn)] h n0 (fun r h' => r = some (.int (1 : Int32)) ∧ Keep h h' [a, t, e, v, f] ∧ EO Z n0 h' a t e v f kt ke kv kf (2 : Int32) (2 : Int32) t0 ty e0 el v0 vl f0 cn) := by
  refine Con.mk (Ls := #[.val (.ref a), .val (.int ty), .val (.int el), .val (.int vl), .val (.long cn), .second, .unset]) (plainFor_of_name pn_0) (fun m => by first | (simp [entryFrame, mkF, argsToLocals, Value.category]; done) | rfl) (fun w C => ?_)
  replace C : Cx w l Z "com/example/strictwire/strictwire/EventOrder" prog_6_method_17_code 7 (some .int) "push" ({ frames := 1, cells := 0, slots := 0, locals := 13 } : Room) n0 := C
  obtain ⟨S_BEGIN, E_BEGIN, S_VALUE, E_VALUE, F_BEGIN_ordinal, F_VALUE_ordinal⟩ := id H
  obtain ⟨ga, gt, ge, gv, gf, n_a_t, n_a_e, n_a_v, n_a_f, n_t_e, n_t_v, n_t_f, n_e_v, n_e_f, n_v_f, E0, Ft, Fe, Fv, Ff, Fn, Fd, At, Ae, Av, Af⟩ := P
  refine g_aloadN C (pc' := 1) d6_0 rfl rfl rfl ?_
  refine g_getF C (pc' := 4) (wd hw 52 rfl) Via.refl d6_1 rfl Fd rfl ?_
  refine g_aloadN C (pc' := 5) d6_4 rfl rfl rfl ?_
  refine g_getF C (pc' := 8) (wd hw 15 rfl) Via.refl d6_5 rfl Ft rfl ?_
  refine g_alen C (pc' := 9) d6_8 rfl At rfl ?_
  refine g_icY C (pc' := 16) d6_9 rfl (by decide) (by decide) rfl ?_
  refine g_aloadN C (pc' := 17) d6_16 rfl rfl rfl ?_
  refine g_getF C (pc' := 20) (wd hw 52 rfl) Via.refl d6_17 rfl Fd rfl ?_
  refine g_istore C (pc' := 22) (Ls' := #[.val (.ref a), .val (.int ty), .val (.int el), .val (.int vl), .val (.long cn), .second, .val (.int (1 : Int32))]) d6_20 rfl rfl rfl ?_
  refine g_aloadN C (pc' := 23) d6_22 rfl rfl rfl ?_
  refine g_getF C (pc' := 26) (wd hw 15 rfl) Via.refl d6_23 rfl Ft rfl ?_
  refine g_iload C (pc' := 28) d6_26 rfl rfl ?_
  refine g_iloadN C (pc' := 29) d6_28 rfl rfl ?_
  refine g_bastore C (pc' := 30) d6_29 rfl At (by decide) (by decide) gt rfl (fun h297 W298 => ?_)
  rw [show nar .byte ty = ty from hty] at W298
  have f299 := O.wr W298 gt
  have f300 := E0.wr W298
  have f301 := Ft.other W298 (Or.inl n_a_t)
  have f302 := (arv_put At (hty ▸ fits_nar_byte ty) W298 (i := 1) rfl (Nat.le_of_ble_eq_true rfl) : Arv Z h297 t kt .byte (8 : Int32) [(.int t0), (.int ty), (.int (0 : Int32)), (.int (0 : Int32)), (.int (0 : Int32)), (.int (0 : Int32)), (.int (0 : Int32)), (.int (0 : Int32))] (.int (0 : Int32)))
  have f303 := Fe.other W298 (Or.inl n_a_t)
  have f304 := Ae.other W298 (Ne.symm n_t_e)
  have f305 := Fv.other W298 (Or.inl n_a_t)
  have f306 := Av.other W298 (Ne.symm n_t_v)
  have f307 := Ff.other W298 (Or.inl n_a_t)
  have f308 := Af.other W298 (Ne.symm n_t_f)
  have f309 := Fn.other W298 (Or.inl n_a_t)
  have f310 := Fd.other W298 (Or.inl n_a_t)
  have f311 := (Keep.refl h [a, t, e, v, f]).wr W298 (Or.inl (List.mem_of_getElem? (i := 1) rfl))
  refine g_aloadN C (pc' := 31) d6_30 rfl rfl rfl ?_
  refine g_getF C (pc' := 34) (wd hw 17 rfl) Via.refl d6_31 rfl f303 rfl ?_
  refine g_iload C (pc' := 36) d6_34 rfl rfl ?_
  refine g_iloadN C (pc' := 37) d6_36 rfl rfl ?_
  refine g_bastore C (pc' := 38) d6_37 rfl f304 (by decide) (by decide) ge rfl (fun h312 W313 => ?_)
  rw [show nar .byte el = el from hel] at W313
  have f314 := f299.wr W313 ge
  have f315 := f300.wr W313
  have f316 := f301.other W313 (Or.inl n_a_e)
  have f317 := f302.other W313 n_t_e
  have f318 := f303.other W313 (Or.inl n_a_e)
  have f319 := (arv_put f304 (hel ▸ fits_nar_byte el) W313 (i := 1) rfl (Nat.le_of_ble_eq_true rfl) : Arv Z h312 e ke .byte (8 : Int32) [(.int e0), (.int el), (.int (0 : Int32)), (.int (0 : Int32)), (.int (0 : Int32)), (.int (0 : Int32)), (.int (0 : Int32)), (.int (0 : Int32))] (.int (0 : Int32)))
  have f320 := f305.other W313 (Or.inl n_a_e)
  have f321 := f306.other W313 (Ne.symm n_e_v)
  have f322 := f307.other W313 (Or.inl n_a_e)
  have f323 := f308.other W313 (Ne.symm n_e_f)
  have f324 := f309.other W313 (Or.inl n_a_e)
  have f325 := f310.other W313 (Or.inl n_a_e)
  have f326 := f311.wr W313 (Or.inl (List.mem_of_getElem? (i := 2) rfl))
  refine g_aloadN C (pc' := 39) d6_38 rfl rfl rfl ?_
  refine g_getF C (pc' := 42) (wd hw 19 rfl) Via.refl d6_39 rfl f320 rfl ?_
  refine g_iload C (pc' := 44) d6_42 rfl rfl ?_
  refine g_iloadN C (pc' := 45) d6_44 rfl rfl ?_
  refine g_bastore C (pc' := 46) d6_45 rfl f321 (by decide) (by decide) gv rfl (fun h327 W328 => ?_)
  rw [show nar .byte vl = vl from hvl] at W328
  have f329 := f314.wr W328 gv
  have f330 := f315.wr W328
  have f331 := f316.other W328 (Or.inl n_a_v)
  have f332 := f317.other W328 n_t_v
  have f333 := f318.other W328 (Or.inl n_a_v)
  have f334 := f319.other W328 n_e_v
  have f335 := f320.other W328 (Or.inl n_a_v)
  have f336 := (arv_put f321 (hvl ▸ fits_nar_byte vl) W328 (i := 1) rfl (Nat.le_of_ble_eq_true rfl) : Arv Z h327 v kv .byte (8 : Int32) [(.int v0), (.int vl), (.int (0 : Int32)), (.int (0 : Int32)), (.int (0 : Int32)), (.int (0 : Int32)), (.int (0 : Int32)), (.int (0 : Int32))] (.int (0 : Int32)))
  have f337 := f322.other W328 (Or.inl n_a_v)
  have f338 := f323.other W328 (Ne.symm n_v_f)
  have f339 := f324.other W328 (Or.inl n_a_v)
  have f340 := f325.other W328 (Or.inl n_a_v)
  have f341 := f326.wr W328 (Or.inl (List.mem_of_getElem? (i := 3) rfl))
  refine g_aloadN C (pc' := 47) d6_46 rfl rfl rfl ?_
  refine g_getF C (pc' := 50) (wd hw 22 rfl) Via.refl d6_47 rfl f337 rfl ?_
  refine g_iload C (pc' := 52) d6_50 rfl rfl ?_
  refine g_lload C (pc' := 54) d6_52 rfl rfl ?_
  refine g_lastore C (pc' := 55) d6_54 rfl f338 (by decide) (by decide) gf rfl (fun h342 W343 => ?_)
  have f344 := f329.wr W343 gf
  have f345 := f330.wr W343
  have f346 := f331.other W343 (Or.inl n_a_f)
  have f347 := f332.other W343 n_t_f
  have f348 := f333.other W343 (Or.inl n_a_f)
  have f349 := f334.other W343 n_e_f
  have f350 := f335.other W343 (Or.inl n_a_f)
  have f351 := f336.other W343 n_v_f
  have f352 := f337.other W343 (Or.inl n_a_f)
  have f353 := (arv_put f338 rfl W343 (i := 1) rfl (Nat.le_of_ble_eq_true rfl) : Arv Z h342 f kf .long (8 : Int32) [(.long f0), (.long cn), (.long (0 : Int64)), (.long (0 : Int64)), (.long (0 : Int64)), (.long (0 : Int64)), (.long (0 : Int64)), (.long (0 : Int64))] (.long (0 : Int64)))
  have f354 := f339.other W343 (Or.inl n_a_f)
  have f355 := f340.other W343 (Or.inl n_a_f)
  have f356 := f341.wr W343 (Or.inl (List.mem_of_getElem? (i := 4) rfl))
  refine g_aloadN C (pc' := 56) d6_55 rfl rfl rfl ?_
  refine g_dup C (pc' := 57) d6_56 rfl rfl rfl ?_
  refine g_getF C (pc' := 60) (wd hw 52 rfl) Via.refl d6_57 rfl f355 rfl ?_
  refine g_iconst C (pc' := 61) (v := (1 : Int32)) d6_60 (by decide) rfl ?_
  refine g_iadd C (pc' := 62) d6_61 rfl rfl ?_
  rw [show ((1 : Int32) + (1 : Int32)) = (2 : Int32) from by decide]
  refine g_putF C (pc' := 65) (ty := .int) (wd hw 52 rfl) Via.refl d6_62 rfl f355 f345 (Or.inl (wd hw 53 rfl)) (wd hw 6 rfl) (by decide) rfl rfl ga rfl (fun h357 W358 => ?_)
  have f359 := f344.wr W358 ga
  have f360 := f345.wr W358
  have f361 := f346.other W358 (Or.inr (slot_ne (Or.inl (wd hw 16 rfl)) (Or.inl (wd hw 53 rfl)) (by decide) (t := (.array .byte)) (t' := .int) (by decide) (by decide)))
  have f362 := f347.other W358 (Ne.symm n_a_t)
  have f363 := f348.other W358 (Or.inr (slot_ne (Or.inl (wd hw 18 rfl)) (Or.inl (wd hw 53 rfl)) (by decide) (t := (.array .byte)) (t' := .int) (by decide) (by decide)))
  have f364 := f349.other W358 (Ne.symm n_a_e)
  have f365 := f350.other W358 (Or.inr (slot_ne (Or.inl (wd hw 20 rfl)) (Or.inl (wd hw 53 rfl)) (by decide) (t := (.array .byte)) (t' := .int) (by decide) (by decide)))
  have f366 := f351.other W358 (Ne.symm n_a_v)
  have f367 := f352.other W358 (Or.inr (slot_ne (Or.inl (wd hw 23 rfl)) (Or.inl (wd hw 53 rfl)) (by decide) (t := (.array .long)) (t' := .int) (by decide) (by decide)))
  have f368 := f353.other W358 (Ne.symm n_a_f)
  have f369 := f354.other W358 (Or.inr (slot_ne (Or.inl (wd hw 41 rfl)) (Or.inl (wd hw 53 rfl)) (by decide) (t := .int) (t' := .int) (by decide) (by decide)))
  have f370 := f355.same W358
  have f371 := f356.wr W358 (Or.inl (List.mem_of_getElem? (i := 0) rfl))
  refine g_iloadN C (pc' := 66) d6_65 rfl rfl ?_
  refine g_bipush C (pc' := 68) (v := (12 : Int32)) d6_66 (by decide) rfl ?_
  refine g_icY C (pc' := 84) d6_68 rfl (says_t (cd := .ne) (h12)) (by decide) rfl ?_
  refine g_aloadN C (pc' := 85) d6_84 rfl rfl rfl ?_
  refine g_lload C (pc' := 87) d6_85 rfl rfl ?_
  refine g_lconst C (pc' := 88) (v := (0 : Int64)) d6_87 (by decide) rfl ?_
  refine g_lcmp C (pc' := 89) d6_88 rfl rfl ?_
  refine g_ifN C (pc' := 92) d6_89 rfl (says_f (cd := .le) (fun q => q ((lw_gt _ _).mpr hcn))) rfl ?_
  refine g_getS C (pc' := 95) (wd hw 54 rfl) Via.refl d6_92 (S_VALUE.ext f359.2) rfl ?_
  refine g_virtualUp C (pc' := 98) (k' := 0) (n' := 0) (argsL := []) (rest := [(.ref a)]) (wd hw 31 rfl) (wd hw 32 rfl) (wd hw 33 rfl) (by decide) (wd hw 35 rfl) (wd hw 34 rfl) (wd hw 36 rfl) (wd hw 37 rfl) d6_95 pd_2 rfl rfl rfl (E_VALUE.ext f359.2) (ord_VALUE l Z a0 hw n0 h357 f359 s_BEGIN s_VALUE H) (Nat.le_of_ble_eq_true rfl) (Nat.le_of_ble_eq_true rfl) (Nat.le_of_ble_eq_true rfl) (Nat.le_of_ble_eq_true rfl) rfl rfl rfl (fun v373 h372 q374 => ?_)
  obtain ⟨rfl, eh372⟩ := q374
  subst h372
  show G w _ h357 0 0 98 #[.val (.ref a), .val (.int ty), .val (.int el), .val (.int vl), .val (.long cn), .second, .val (.int (1 : Int32))] [(.int (2 : Int32)), (.ref a)]
  refine g_goto C (pc' := 107) d6_98 (by decide) rfl ?_
  refine g_putF C (pc' := 110) (ty := .int) (wd hw 40 rfl) Via.refl d6_107 rfl f369 f360 (Or.inl (wd hw 41 rfl)) (wd hw 6 rfl) (by decide) rfl rfl ga rfl (fun h375 W376 => ?_)
  have f377 := f359.wr W376 ga
  have f378 := f360.wr W376
  have f379 := f361.other W376 (Or.inr (slot_ne (Or.inl (wd hw 16 rfl)) (Or.inl (wd hw 41 rfl)) (by decide) (t := (.array .byte)) (t' := .int) (by decide) (by decide)))
  have f380 := f362.other W376 (Ne.symm n_a_t)
  have f381 := f363.other W376 (Or.inr (slot_ne (Or.inl (wd hw 18 rfl)) (Or.inl (wd hw 41 rfl)) (by decide) (t := (.array .byte)) (t' := .int) (by decide) (by decide)))
  have f382 := f364.other W376 (Ne.symm n_a_e)
  have f383 := f365.other W376 (Or.inr (slot_ne (Or.inl (wd hw 20 rfl)) (Or.inl (wd hw 41 rfl)) (by decide) (t := (.array .byte)) (t' := .int) (by decide) (by decide)))
  have f384 := f366.other W376 (Ne.symm n_a_v)
  have f385 := f367.other W376 (Or.inr (slot_ne (Or.inl (wd hw 23 rfl)) (Or.inl (wd hw 41 rfl)) (by decide) (t := (.array .long)) (t' := .int) (by decide) (by decide)))
  have f386 := f368.other W376 (Ne.symm n_a_f)
  have f387 := f369.same W376
  have f388 := f370.other W376 (Or.inr (slot_ne (Or.inl (wd hw 53 rfl)) (Or.inl (wd hw 41 rfl)) (by decide) (t := .int) (t' := .int) (by decide) (by decide)))
  have f389 := f371.wr W376 (Or.inl (List.mem_of_getElem? (i := 0) rfl))
  refine g_iload C (pc' := 112) d6_110 rfl rfl ?_
  exact g_ireturn C d6_112 rfl (Nat.le_of_ble_eq_true rfl) (Nat.le_of_ble_eq_true rfl) (⟨rfl, f389, ⟨ga, gt, ge, gv, gf, n_a_t, n_a_e, n_a_v, n_a_f, n_t_e, n_t_v, n_t_f, n_e_v, n_e_f, n_v_f, f378, f379, f381, f383, f385, f387, f388, f380, f382, f384, f386⟩⟩)
set_option maxRecDepth 65536 in
set_option maxHeartbeats 40000000 in
theorem omap_1 (l : Launch) (Z : State) (a0 : Array Value) (hw : ∀ d ∈ tables_1, d.before a0 Z = true) (n0 : Nat) (h : Heap) (O : Old Z n0 h) (s_BEGIN : Addr) (s_VALUE : Addr) (H : En Z s_BEGIN s_VALUE) (a t e v f : Addr) (kt ke kv kf : ClassId) (nx t0 t1 e0 e1 v0 v1 : Int32) (f0 f1 : Int64) (el vl sz : Int32) (hel : nar .byte el = el) (hvl : nar .byte vl = vl) (hcn : 0 < (2 : Int64) * sz.toInt64) (P : EO Z n0 h a t e v f kt ke kv kf nx (1 : Int32) t0 t1 e0 e1 v0 v1 f0 f1) : Con l Z (⟨"com/example/strictwire/strictwire/EventOrder", "openMap", "(BBI)V"⟩ : MethodName) prog_6_method_11_code 4 none ({ frames := 2, cells := 0, slots := 0, locals := 31 } : Room) #[(.ref a), (.int el), (.int vl), (.int sz)] h n0 (fun r h' => r = none ∧ Keep h h' [a, t, e, v, f] ∧ EO Z n0 h' a t e v f kt ke kv kf (2 : Int32) (2 : Int32) t0 (13 : Int32) e0 el v0 vl f0 ((2 : Int64) * sz.toInt64)) := by
  refine Con.mk (Ls := #[.val (.ref a), .val (.int el), .val (.int vl), .val (.int sz)]) (plainFor_of_name pn_0) (fun m => by first | (simp [entryFrame, mkF, argsToLocals, Value.category]; done) | rfl) (fun w C => ?_)
  replace C : Cx w l Z "com/example/strictwire/strictwire/EventOrder" prog_6_method_11_code 4 none "openMap" ({ frames := 2, cells := 0, slots := 0, locals := 31 } : Room) n0 := C
  obtain ⟨S_BEGIN, E_BEGIN, S_VALUE, E_VALUE, F_BEGIN_ordinal, F_VALUE_ordinal⟩ := id H
  obtain ⟨ga, gt, ge, gv, gf, n_a_t, n_a_e, n_a_v, n_a_f, n_t_e, n_t_v, n_t_f, n_e_v, n_e_f, n_v_f, E0, Ft, Fe, Fv, Ff, Fn, Fd, At, Ae, Av, Af⟩ := P
  refine g_aloadN C (pc' := 1) d5_0 rfl rfl rfl ?_
  refine g_bipush C (pc' := 3) (v := (13 : Int32)) d5_1 (by decide) rfl ?_
  refine g_iloadN C (pc' := 4) d5_3 rfl rfl ?_
  refine g_iloadN C (pc' := 5) d5_4 rfl rfl ?_
  refine g_ldc2Long C (pc' := 8) (wd hw 47 rfl) d5_5 rfl ?_
  refine g_iloadN C (pc' := 9) d5_8 rfl rfl ?_
  refine g_i2l C (pc' := 10) d5_9 rfl rfl ?_
  refine g_lmul C (pc' := 11) d5_10 rfl rfl ?_
  refine g_private C (pc' := 14) (k' := 0) (n' := 0) (argsL := [(.int (13 : Int32)), (.int el), (.int vl), (.long ((2 : Int64) * sz.toInt64))]) (rest := []) (wd hw 48 rfl) (wd hw 49 rfl) (wd hw 6 rfl) (wd hw 50 rfl) (wd hw 7 rfl) (wd hw 51 rfl) (by decide) d5_11 pd_4 rfl rfl rfl E0 (push_1 l Z a0 hw n0 h O s_BEGIN s_VALUE H a t e v f kt ke kv kf nx t0 t1 e0 e1 v0 v1 f0 f1 (13 : Int32) el vl ((2 : Int64) * sz.toInt64) (by decide) hel hvl (by decide) hcn ⟨ga, gt, ge, gv, gf, n_a_t, n_a_e, n_a_v, n_a_f, n_t_e, n_t_v, n_t_f, n_e_v, n_e_f, n_v_f, E0, Ft, Fe, Fv, Ff, Fn, Fd, At, Ae, Av, Af⟩) (Nat.le_of_ble_eq_true rfl) (Nat.le_of_ble_eq_true rfl) (Nat.le_of_ble_eq_true rfl) (Nat.le_of_ble_eq_true rfl) rfl rfl rfl (fun v391 h390 q392 => ?_)
  obtain ⟨rfl, Kp, Pp⟩ := q392
  have f393 := O.keep Kp (allS ga (allS gt (allS ge (allS gv (allS gf all0)))))
  have f394 := E0.keep Kp
  have f395 := (Keep.refl h [a, t, e, v, f]).trans Kp (allS (Or.inl (List.mem_of_getElem? (i := 0) rfl)) (allS (Or.inl (List.mem_of_getElem? (i := 1) rfl)) (allS (Or.inl (List.mem_of_getElem? (i := 2) rfl)) (allS (Or.inl (List.mem_of_getElem? (i := 3) rfl)) (allS (Or.inl (List.mem_of_getElem? (i := 4) rfl)) all0)))))
  obtain ⟨qga, qgt, qge, qgv, qgf, qn_a_t, qn_a_e, qn_a_v, qn_a_f, qn_t_e, qn_t_v, qn_t_f, qn_e_v, qn_e_f, qn_v_f, qE0, qFt, qFe, qFv, qFf, qFn, qFd, qAt, qAe, qAv, qAf⟩ := Pp
  show G w _ h390 0 0 14 #[.val (.ref a), .val (.int el), .val (.int vl), .val (.int sz)] [(.int (1 : Int32))]
  refine g_pop C (pc' := 15) d5_14 rfl rfl rfl ?_
  exact g_return C d5_15 rfl (Nat.le_of_ble_eq_true rfl) (Nat.le_of_ble_eq_true rfl) (⟨rfl, f395, ⟨qga, qgt, qge, qgv, qgf, qn_a_t, qn_a_e, qn_a_v, qn_a_f, qn_t_e, qn_t_v, qn_t_f, qn_e_v, qn_e_f, qn_v_f, qE0, qFt, qFe, qFv, qFf, qFn, qFd, qAt, qAe, qAv, qAf⟩⟩)
set_option maxRecDepth 65536 in
set_option maxHeartbeats 40000000 in
theorem ocol_1 (l : Launch) (Z : State) (a0 : Array Value) (hw : ∀ d ∈ tables_1, d.before a0 Z = true) (n0 : Nat) (h : Heap) (O : Old Z n0 h) (s_BEGIN : Addr) (s_VALUE : Addr) (H : En Z s_BEGIN s_VALUE) (a t e v f : Addr) (kt ke kv kf : ClassId) (nx t0 t1 e0 e1 v0 v1 : Int32) (f0 f1 : Int64) (ty el sz : Int32) (hty : nar .byte ty = ty) (hel : nar .byte el = el) (h12 : ¬ ty = 12) (hcn : 0 < sz.toInt64) (P : EO Z n0 h a t e v f kt ke kv kf nx (1 : Int32) t0 t1 e0 e1 v0 v1 f0 f1) : Con l Z (⟨"com/example/strictwire/strictwire/EventOrder", "openCollection", "(BBI)V"⟩ : MethodName) prog_6_method_10_code 4 none ({ frames := 2, cells := 0, slots := 0, locals := 31 } : Room) #[(.ref a), (.int ty), (.int el), (.int sz)] h n0 (fun r h' => r = none ∧ Keep h h' [a, t, e, v, f] ∧ EO Z n0 h' a t e v f kt ke kv kf (2 : Int32) (2 : Int32) t0 ty e0 el v0 (0 : Int32) f0 sz.toInt64) := by
  refine Con.mk (Ls := #[.val (.ref a), .val (.int ty), .val (.int el), .val (.int sz)]) (plainFor_of_name pn_0) (fun m => by first | (simp [entryFrame, mkF, argsToLocals, Value.category]; done) | rfl) (fun w C => ?_)
  replace C : Cx w l Z "com/example/strictwire/strictwire/EventOrder" prog_6_method_10_code 4 none "openCollection" ({ frames := 2, cells := 0, slots := 0, locals := 31 } : Room) n0 := C
  obtain ⟨S_BEGIN, E_BEGIN, S_VALUE, E_VALUE, F_BEGIN_ordinal, F_VALUE_ordinal⟩ := id H
  obtain ⟨ga, gt, ge, gv, gf, n_a_t, n_a_e, n_a_v, n_a_f, n_t_e, n_t_v, n_t_f, n_e_v, n_e_f, n_v_f, E0, Ft, Fe, Fv, Ff, Fn, Fd, At, Ae, Av, Af⟩ := P
  refine g_aloadN C (pc' := 1) d8_0 rfl rfl rfl ?_
  refine g_iloadN C (pc' := 2) d8_1 rfl rfl ?_
  refine g_iloadN C (pc' := 3) d8_2 rfl rfl ?_
  refine g_iconst C (pc' := 4) (v := (0 : Int32)) d8_3 (by decide) rfl ?_
  refine g_iloadN C (pc' := 5) d8_4 rfl rfl ?_
  refine g_i2l C (pc' := 6) d8_5 rfl rfl ?_
  refine g_private C (pc' := 9) (k' := 0) (n' := 0) (argsL := [(.int ty), (.int el), (.int (0 : Int32)), (.long sz.toInt64)]) (rest := []) (wd hw 48 rfl) (wd hw 49 rfl) (wd hw 6 rfl) (wd hw 50 rfl) (wd hw 7 rfl) (wd hw 51 rfl) (by decide) d8_6 pd_4 rfl rfl rfl E0 (push_1 l Z a0 hw n0 h O s_BEGIN s_VALUE H a t e v f kt ke kv kf nx t0 t1 e0 e1 v0 v1 f0 f1 ty el (0 : Int32) sz.toInt64 hty hel (by decide) h12 hcn ⟨ga, gt, ge, gv, gf, n_a_t, n_a_e, n_a_v, n_a_f, n_t_e, n_t_v, n_t_f, n_e_v, n_e_f, n_v_f, E0, Ft, Fe, Fv, Ff, Fn, Fd, At, Ae, Av, Af⟩) (Nat.le_of_ble_eq_true rfl) (Nat.le_of_ble_eq_true rfl) (Nat.le_of_ble_eq_true rfl) (Nat.le_of_ble_eq_true rfl) rfl rfl rfl (fun v397 h396 q398 => ?_)
  obtain ⟨rfl, Kp, Pp⟩ := q398
  have f399 := O.keep Kp (allS ga (allS gt (allS ge (allS gv (allS gf all0)))))
  have f400 := E0.keep Kp
  have f401 := (Keep.refl h [a, t, e, v, f]).trans Kp (allS (Or.inl (List.mem_of_getElem? (i := 0) rfl)) (allS (Or.inl (List.mem_of_getElem? (i := 1) rfl)) (allS (Or.inl (List.mem_of_getElem? (i := 2) rfl)) (allS (Or.inl (List.mem_of_getElem? (i := 3) rfl)) (allS (Or.inl (List.mem_of_getElem? (i := 4) rfl)) all0)))))
  obtain ⟨qga, qgt, qge, qgv, qgf, qn_a_t, qn_a_e, qn_a_v, qn_a_f, qn_t_e, qn_t_v, qn_t_f, qn_e_v, qn_e_f, qn_v_f, qE0, qFt, qFe, qFv, qFf, qFn, qFd, qAt, qAe, qAv, qAf⟩ := Pp
  show G w _ h396 0 0 9 #[.val (.ref a), .val (.int ty), .val (.int el), .val (.int sz)] [(.int (1 : Int32))]
  refine g_pop C (pc' := 10) d8_9 rfl rfl rfl ?_
  exact g_return C d8_10 rfl (Nat.le_of_ble_eq_true rfl) (Nat.le_of_ble_eq_true rfl) (⟨rfl, f401, ⟨qga, qgt, qge, qgv, qgf, qn_a_t, qn_a_e, qn_a_v, qn_a_f, qn_t_e, qn_t_v, qn_t_f, qn_e_v, qn_e_f, qn_v_f, qE0, qFt, qFe, qFv, qFf, qFn, qFd, qAt, qAe, qAv, qAf⟩⟩)
theorem d9_0 : decode prog_6_method_13_code 0 = .ok (.aload_n 0, 1) := by decide +kernel
theorem d9_1 : decode prog_6_method_13_code 1 = .ok (.getfield 19, 3) := by decide +kernel
theorem d9_4 : decode prog_6_method_13_code 4 = .ok (.aload_n 0, 1) := by decide +kernel
theorem d9_5 : decode prog_6_method_13_code 5 = .ok (.getfield 47, 3) := by decide +kernel
theorem d9_8 : decode prog_6_method_13_code 8 = .ok (.iconst 1, 1) := by decide +kernel
theorem d9_9 : decode prog_6_method_13_code 9 = .ok (.isub, 1) := by decide +kernel
theorem d9_10 : decode prog_6_method_13_code 10 = .ok (.dup2, 1) := by decide +kernel
theorem d9_11 : decode prog_6_method_13_code 11 = .ok (.laload, 1) := by decide +kernel
theorem d9_12 : decode prog_6_method_13_code 12 = .ok (.lconst 1, 1) := by decide +kernel
theorem d9_13 : decode prog_6_method_13_code 13 = .ok (.lsub, 1) := by decide +kernel
theorem d9_14 : decode prog_6_method_13_code 14 = .ok (.dup2_x2, 1) := by decide +kernel
theorem d9_15 : decode prog_6_method_13_code 15 = .ok (.lastore, 1) := by decide +kernel
theorem d9_16 : decode prog_6_method_13_code 16 = .ok (.lstore_n 1, 1) := by decide +kernel
theorem d9_17 : decode prog_6_method_13_code 17 = .ok (.lload_n 1, 1) := by decide +kernel
theorem d9_18 : decode prog_6_method_13_code 18 = .ok (.lconst 0, 1) := by decide +kernel
theorem d9_19 : decode prog_6_method_13_code 19 = .ok (.lcmp, 1) := by decide +kernel
theorem d9_20 : decode prog_6_method_13_code 20 = .ok (.ifCond .ne 13, 3) := by decide +kernel
theorem d9_33 : decode prog_6_method_13_code 33 = .ok (.return_, 1) := by decide +kernel
set_option maxRecDepth 65536 in
set_option maxHeartbeats 40000000 in
theorem take_1 (l : Launch) (Z : State) (a0 : Array Value) (hw : ∀ d ∈ tables_1, d.before a0 Z = true) (n0 : Nat) (h : Heap) (O : Old Z n0 h) (s_BEGIN : Addr) (s_VALUE : Addr) (H : En Z s_BEGIN s_VALUE) (a t e v f : Addr) (kt ke kv kf : ClassId) (nx t0 t1 e0 e1 v0 v1 : Int32) (f0 f1 : Int64) (hnz : ¬ (f0 - (1 : Int64)) = 0) (P : EO Z n0 h a t e v f kt ke kv kf nx (1 : Int32) t0 t1 e0 e1 v0 v1 f0 f1) : Con l Z (⟨"com/example/strictwire/strictwire/EventOrder", "takeValue", "()V"⟩ : MethodName) prog_6_method_13_code 3 none ({ frames := 0, cells := 0, slots := 0, locals := 0 } : Room) #[(.ref a)] h n0 (fun r h' => r = none ∧ Keep h h' [a, t, e, v, f] ∧ EO Z n0 h' a t e v f kt ke kv kf nx (1 : Int32) t0 t1 e0 e1 v0 v1 (f0 - (1 : Int64)) f1) := by
  refine Con.mk (Ls := #[.val (.ref a), .unset, .unset]) (plainFor_of_name pn_0) (fun m => by first | (simp [entryFrame, mkF, argsToLocals, Value.category]; done) | rfl) (fun w C => ?_)
  replace C : Cx w l Z "com/example/strictwire/strictwire/EventOrder" prog_6_method_13_code 3 none "takeValue" ({ frames := 0, cells := 0, slots := 0, locals := 0 } : Room) n0 := C
  obtain ⟨S_BEGIN, E_BEGIN, S_VALUE, E_VALUE, F_BEGIN_ordinal, F_VALUE_ordinal⟩ := id H
  obtain ⟨ga, gt, ge, gv, gf, n_a_t, n_a_e, n_a_v, n_a_f, n_t_e, n_t_v, n_t_f, n_e_v, n_e_f, n_v_f, E0, Ft, Fe, Fv, Ff, Fn, Fd, At, Ae, Av, Af⟩ := P
  refine g_aloadN C (pc' := 1) d9_0 rfl rfl rfl ?_
  refine g_getF C (pc' := 4) (wd hw 22 rfl) Via.refl d9_1 rfl Ff rfl ?_
  refine g_aloadN C (pc' := 5) d9_4 rfl rfl rfl ?_
  refine g_getF C (pc' := 8) (wd hw 52 rfl) Via.refl d9_5 rfl Fd rfl ?_
  refine g_iconst C (pc' := 9) (v := (1 : Int32)) d9_8 (by decide) rfl ?_
  refine g_isub C (pc' := 10) d9_9 rfl rfl ?_
  rw [show ((1 : Int32) - (1 : Int32)) = (0 : Int32) from by decide]
  refine g_dup2 C (pc' := 11) d9_10 rfl rfl rfl rfl ?_
  refine g_laload C (pc' := 12) (x := f0) d9_11 rfl Af (by decide) (by decide) rfl rfl ?_
  refine g_lconst C (pc' := 13) (v := (1 : Int64)) d9_12 (by decide) rfl ?_
  refine g_lsub C (pc' := 14) d9_13 rfl rfl ?_
  refine g_dup2_x2L C (pc' := 15) d9_14 rfl rfl ?_
  refine g_lastore C (pc' := 16) d9_15 rfl Af (by decide) (by decide) gf rfl (fun h402 W403 => ?_)
  have f404 := O.wr W403 gf
  have f405 := E0.wr W403
  have f406 := Ft.other W403 (Or.inl n_a_f)
  have f407 := At.other W403 n_t_f
  have f408 := Fe.other W403 (Or.inl n_a_f)
  have f409 := Ae.other W403 n_e_f
  have f410 := Fv.other W403 (Or.inl n_a_f)
  have f411 := Av.other W403 n_v_f
  have f412 := Ff.other W403 (Or.inl n_a_f)
  have f413 := (arv_put Af rfl W403 (i := 0) rfl (Nat.le_of_ble_eq_true rfl) : Arv Z h402 f kf .long (8 : Int32) [(.long (f0 - (1 : Int64))), (.long f1), (.long (0 : Int64)), (.long (0 : Int64)), (.long (0 : Int64)), (.long (0 : Int64)), (.long (0 : Int64)), (.long (0 : Int64))] (.long (0 : Int64)))
  have f414 := Fn.other W403 (Or.inl n_a_f)
  have f415 := Fd.other W403 (Or.inl n_a_f)
  have f416 := (Keep.refl h [a, t, e, v, f]).wr W403 (Or.inl (List.mem_of_getElem? (i := 4) rfl))
  refine g_lstoreN C (pc' := 17) (Ls' := #[.val (.ref a), .val (.long (f0 - (1 : Int64))), .second]) d9_16 rfl rfl rfl ?_
  refine g_lloadN C (pc' := 18) d9_17 rfl rfl ?_
  refine g_lconst C (pc' := 19) (v := (0 : Int64)) d9_18 (by decide) rfl ?_
  refine g_lcmp C (pc' := 20) d9_19 rfl rfl ?_
  refine g_ifY C (pc' := 33) d9_20 rfl (says_t (cd := .ne) (fun q => hnz ((lw_eq _ _).mp q))) (by decide) rfl ?_
  exact g_return C d9_33 rfl (Nat.le_of_ble_eq_true rfl) (Nat.le_of_ble_eq_true rfl) (⟨rfl, f416, ⟨ga, gt, ge, gv, gf, n_a_t, n_a_e, n_a_v, n_a_f, n_t_e, n_t_v, n_t_f, n_e_v, n_e_f, n_v_f, f405, f406, f408, f410, f412, f414, f415, f407, f409, f411, f413⟩⟩)
theorem d7_0 : decode prog_6_method_7_code 0 = .ok (.aload_n 0, 1) := by decide +kernel
theorem d7_1 : decode prog_6_method_7_code 1 = .ok (.getfield 47, 3) := by decide +kernel
theorem d7_4 : decode prog_6_method_7_code 4 = .ok (.iconst 1, 1) := by decide +kernel
theorem d7_5 : decode prog_6_method_7_code 5 = .ok (.isub, 1) := by decide +kernel
theorem d7_6 : decode prog_6_method_7_code 6 = .ok (.istore_n 1, 1) := by decide +kernel
theorem d7_7 : decode prog_6_method_7_code 7 = .ok (.aload_n 0, 1) := by decide +kernel
theorem d7_8 : decode prog_6_method_7_code 8 = .ok (.getfield 9, 3) := by decide +kernel
theorem d7_11 : decode prog_6_method_7_code 11 = .ok (.iload_n 1, 1) := by decide +kernel
theorem d7_12 : decode prog_6_method_7_code 12 = .ok (.baload, 1) := by decide +kernel
theorem d7_13 : decode prog_6_method_7_code 13 = .ok (.bipush 13, 2) := by decide +kernel
theorem d7_15 : decode prog_6_method_7_code 15 = .ok (.if_icmp .ne 22, 3) := by decide +kernel
theorem d7_18 : decode prog_6_method_7_code 18 = .ok (.aload_n 0, 1) := by decide +kernel
theorem d7_19 : decode prog_6_method_7_code 19 = .ok (.getfield 19, 3) := by decide +kernel
theorem d7_22 : decode prog_6_method_7_code 22 = .ok (.iload_n 1, 1) := by decide +kernel
theorem d7_23 : decode prog_6_method_7_code 23 = .ok (.laload, 1) := by decide +kernel
theorem d7_24 : decode prog_6_method_7_code 24 = .ok (.ldc2_w 77, 3) := by decide +kernel
theorem d7_27 : decode prog_6_method_7_code 27 = .ok (.lrem, 1) := by decide +kernel
theorem d7_28 : decode prog_6_method_7_code 28 = .ok (.lconst 1, 1) := by decide +kernel
theorem d7_29 : decode prog_6_method_7_code 29 = .ok (.lcmp, 1) := by decide +kernel
theorem d7_30 : decode prog_6_method_7_code 30 = .ok (.ifCond .ne 7, 3) := by decide +kernel
theorem d7_33 : decode prog_6_method_7_code 33 = .ok (.iconst 1, 1) := by decide +kernel
theorem d7_34 : decode prog_6_method_7_code 34 = .ok (.goto 4, 3) := by decide +kernel
theorem d7_38 : decode prog_6_method_7_code 38 = .ok (.istore_n 2, 1) := by decide +kernel
theorem d7_39 : decode prog_6_method_7_code 39 = .ok (.iload_n 2, 1) := by decide +kernel
theorem d7_40 : decode prog_6_method_7_code 40 = .ok (.ifCond .eq 12, 3) := by decide +kernel
theorem d7_43 : decode prog_6_method_7_code 43 = .ok (.aload_n 0, 1) := by decide +kernel
theorem d7_44 : decode prog_6_method_7_code 44 = .ok (.getfield 16, 3) := by decide +kernel
theorem d7_47 : decode prog_6_method_7_code 47 = .ok (.iload_n 1, 1) := by decide +kernel
theorem d7_48 : decode prog_6_method_7_code 48 = .ok (.baload, 1) := by decide +kernel
theorem d7_49 : decode prog_6_method_7_code 49 = .ok (.goto 9, 3) := by decide +kernel
theorem d7_58 : decode prog_6_method_7_code 58 = .ok (.ireturn, 1) := by decide +kernel
set_option maxRecDepth 65536 in
set_option maxHeartbeats 40000000 in
theorem vt1_1 (l : Launch) (Z : State) (a0 : Array Value) (hw : ∀ d ∈ tables_1, d.before a0 Z = true) (n0 : Nat) (h : Heap) (O : Old Z n0 h) (s_BEGIN : Addr) (s_VALUE : Addr) (H : En Z s_BEGIN s_VALUE) (a t e v f : Addr) (kt ke kv kf : ClassId) (nx t1 e0 e1 v0 v1 : Int32) (f0 f1 : Int64) (hod : (f0 - (f0 / (2 : Int64)) * (2 : Int64)) = 1) (hb : nar .byte v0 = v0) (P : EO Z n0 h a t e v f kt ke kv kf nx (1 : Int32) (13 : Int32) t1 e0 e1 v0 v1 f0 f1) : Con l Z (⟨"com/example/strictwire/strictwire/EventOrder", "valueType", "()B"⟩ : MethodName) prog_6_method_7_code 3 (some .byte) ({ frames := 0, cells := 0, slots := 0, locals := 0 } : Room) #[(.ref a)] h n0 (fun r h' => r = some (.int v0) ∧ h' = h) := by
  refine Con.mk (Ls := #[.val (.ref a), .unset, .unset]) (plainFor_of_name pn_0) (fun m => by first | (simp [entryFrame, mkF, argsToLocals, Value.category]; done) | rfl) (fun w C => ?_)
  replace C : Cx w l Z "com/example/strictwire/strictwire/EventOrder" prog_6_method_7_code 3 (some .byte) "valueType" ({ frames := 0, cells := 0, slots := 0, locals := 0 } : Room) n0 := C
  obtain ⟨S_BEGIN, E_BEGIN, S_VALUE, E_VALUE, F_BEGIN_ordinal, F_VALUE_ordinal⟩ := id H
  obtain ⟨ga, gt, ge, gv, gf, n_a_t, n_a_e, n_a_v, n_a_f, n_t_e, n_t_v, n_t_f, n_e_v, n_e_f, n_v_f, E0, Ft, Fe, Fv, Ff, Fn, Fd, At, Ae, Av, Af⟩ := P
  refine g_aloadN C (pc' := 1) d7_0 rfl rfl rfl ?_
  refine g_getF C (pc' := 4) (wd hw 52 rfl) Via.refl d7_1 rfl Fd rfl ?_
  refine g_iconst C (pc' := 5) (v := (1 : Int32)) d7_4 (by decide) rfl ?_
  refine g_isub C (pc' := 6) d7_5 rfl rfl ?_
  rw [show ((1 : Int32) - (1 : Int32)) = (0 : Int32) from by decide]
  refine g_istoreN C (pc' := 7) (Ls' := #[.val (.ref a), .val (.int (0 : Int32)), .unset]) d7_6 rfl rfl rfl ?_
  refine g_aloadN C (pc' := 8) d7_7 rfl rfl rfl ?_
  refine g_getF C (pc' := 11) (wd hw 15 rfl) Via.refl d7_8 rfl Ft rfl ?_
  refine g_iloadN C (pc' := 12) d7_11 rfl rfl ?_
  refine g_baload C (pc' := 13) (x := (13 : Int32)) d7_12 rfl At (by decide) (by decide) rfl rfl ?_
  refine g_bipush C (pc' := 15) (v := (13 : Int32)) d7_13 (by decide) rfl ?_
  refine g_icN C (pc' := 18) d7_15 rfl (by decide) rfl ?_
  refine g_aloadN C (pc' := 19) d7_18 rfl rfl rfl ?_
  refine g_getF C (pc' := 22) (wd hw 22 rfl) Via.refl d7_19 rfl Ff rfl ?_
  refine g_iloadN C (pc' := 23) d7_22 rfl rfl ?_
  refine g_laload C (pc' := 24) (x := f0) d7_23 rfl Af (by decide) (by decide) rfl rfl ?_
  refine g_ldc2Long C (pc' := 27) (wd hw 47 rfl) d7_24 rfl ?_
  refine g_lrem C (pc' := 28) d7_27 rfl (by decide) rfl ?_
  refine g_lconst C (pc' := 29) (v := (1 : Int64)) d7_28 (by decide) rfl ?_
  refine g_lcmp C (pc' := 30) d7_29 rfl rfl ?_
  refine g_ifN C (pc' := 33) d7_30 rfl (says_f (cd := .ne) (fun q => q ((lw_eq _ _).mpr hod))) rfl ?_
  refine g_iconst C (pc' := 34) (v := (1 : Int32)) d7_33 (by decide) rfl ?_
  refine g_goto C (pc' := 38) d7_34 (by decide) rfl ?_
  refine g_istoreN C (pc' := 39) (Ls' := #[.val (.ref a), .val (.int (0 : Int32)), .val (.int (1 : Int32))]) d7_38 rfl rfl rfl ?_
  refine g_iloadN C (pc' := 40) d7_39 rfl rfl ?_
  refine g_ifN C (pc' := 43) d7_40 rfl (by decide) rfl ?_
  refine g_aloadN C (pc' := 44) d7_43 rfl rfl rfl ?_
  refine g_getF C (pc' := 47) (wd hw 19 rfl) Via.refl d7_44 rfl Fv rfl ?_
  refine g_iloadN C (pc' := 48) d7_47 rfl rfl ?_
  refine g_baload C (pc' := 49) (x := v0) d7_48 rfl Av (by decide) (by decide) rfl rfl ?_
  refine g_goto C (pc' := 58) d7_49 (by decide) rfl ?_
  exact g_breturn C d7_58 rfl (congrArg Value.int hb) (Nat.le_of_ble_eq_true rfl) (Nat.le_of_ble_eq_true rfl) (⟨rfl, rfl⟩)
theorem d7_37 : decode prog_6_method_7_code 37 = .ok (.iconst 0, 1) := by decide +kernel
theorem d7_52 : decode prog_6_method_7_code 52 = .ok (.aload_n 0, 1) := by decide +kernel
theorem d7_53 : decode prog_6_method_7_code 53 = .ok (.getfield 13, 3) := by decide +kernel
theorem d7_56 : decode prog_6_method_7_code 56 = .ok (.iload_n 1, 1) := by decide +kernel
theorem d7_57 : decode prog_6_method_7_code 57 = .ok (.baload, 1) := by decide +kernel
set_option maxRecDepth 65536 in
set_option maxHeartbeats 40000000 in
theorem vt0_1 (l : Launch) (Z : State) (a0 : Array Value) (hw : ∀ d ∈ tables_1, d.before a0 Z = true) (n0 : Nat) (h : Heap) (O : Old Z n0 h) (s_BEGIN : Addr) (s_VALUE : Addr) (H : En Z s_BEGIN s_VALUE) (a t e v f : Addr) (kt ke kv kf : ClassId) (nx t1 e0 e1 v0 v1 : Int32) (f0 f1 : Int64) (hod : ¬ (f0 - (f0 / (2 : Int64)) * (2 : Int64)) = 1) (hb : nar .byte e0 = e0) (P : EO Z n0 h a t e v f kt ke kv kf nx (1 : Int32) (13 : Int32) t1 e0 e1 v0 v1 f0 f1) : Con l Z (⟨"com/example/strictwire/strictwire/EventOrder", "valueType", "()B"⟩ : MethodName) prog_6_method_7_code 3 (some .byte) ({ frames := 0, cells := 0, slots := 0, locals := 0 } : Room) #[(.ref a)] h n0 (fun r h' => r = some (.int e0) ∧ h' = h) := by
  refine Con.mk (Ls := #[.val (.ref a), .unset, .unset]) (plainFor_of_name pn_0) (fun m => by first | (simp [entryFrame, mkF, argsToLocals, Value.category]; done) | rfl) (fun w C => ?_)
  replace C : Cx w l Z "com/example/strictwire/strictwire/EventOrder" prog_6_method_7_code 3 (some .byte) "valueType" ({ frames := 0, cells := 0, slots := 0, locals := 0 } : Room) n0 := C
  obtain ⟨S_BEGIN, E_BEGIN, S_VALUE, E_VALUE, F_BEGIN_ordinal, F_VALUE_ordinal⟩ := id H
  obtain ⟨ga, gt, ge, gv, gf, n_a_t, n_a_e, n_a_v, n_a_f, n_t_e, n_t_v, n_t_f, n_e_v, n_e_f, n_v_f, E0, Ft, Fe, Fv, Ff, Fn, Fd, At, Ae, Av, Af⟩ := P
  refine g_aloadN C (pc' := 1) d7_0 rfl rfl rfl ?_
  refine g_getF C (pc' := 4) (wd hw 52 rfl) Via.refl d7_1 rfl Fd rfl ?_
  refine g_iconst C (pc' := 5) (v := (1 : Int32)) d7_4 (by decide) rfl ?_
  refine g_isub C (pc' := 6) d7_5 rfl rfl ?_
  rw [show ((1 : Int32) - (1 : Int32)) = (0 : Int32) from by decide]
  refine g_istoreN C (pc' := 7) (Ls' := #[.val (.ref a), .val (.int (0 : Int32)), .unset]) d7_6 rfl rfl rfl ?_
  refine g_aloadN C (pc' := 8) d7_7 rfl rfl rfl ?_
  refine g_getF C (pc' := 11) (wd hw 15 rfl) Via.refl d7_8 rfl Ft rfl ?_
  refine g_iloadN C (pc' := 12) d7_11 rfl rfl ?_
  refine g_baload C (pc' := 13) (x := (13 : Int32)) d7_12 rfl At (by decide) (by decide) rfl rfl ?_
  refine g_bipush C (pc' := 15) (v := (13 : Int32)) d7_13 (by decide) rfl ?_
  refine g_icN C (pc' := 18) d7_15 rfl (by decide) rfl ?_
  refine g_aloadN C (pc' := 19) d7_18 rfl rfl rfl ?_
  refine g_getF C (pc' := 22) (wd hw 22 rfl) Via.refl d7_19 rfl Ff rfl ?_
  refine g_iloadN C (pc' := 23) d7_22 rfl rfl ?_
  refine g_laload C (pc' := 24) (x := f0) d7_23 rfl Af (by decide) (by decide) rfl rfl ?_
  refine g_ldc2Long C (pc' := 27) (wd hw 47 rfl) d7_24 rfl ?_
  refine g_lrem C (pc' := 28) d7_27 rfl (by decide) rfl ?_
  refine g_lconst C (pc' := 29) (v := (1 : Int64)) d7_28 (by decide) rfl ?_
  refine g_lcmp C (pc' := 30) d7_29 rfl rfl ?_
  refine g_ifY C (pc' := 37) d7_30 rfl (says_t (cd := .ne) (fun q => hod ((lw_eq _ _).mp q))) (by decide) rfl ?_
  refine g_iconst C (pc' := 38) (v := (0 : Int32)) d7_37 (by decide) rfl ?_
  refine g_istoreN C (pc' := 39) (Ls' := #[.val (.ref a), .val (.int (0 : Int32)), .val (.int (0 : Int32))]) d7_38 rfl rfl rfl ?_
  refine g_iloadN C (pc' := 40) d7_39 rfl rfl ?_
  refine g_ifY C (pc' := 52) d7_40 rfl (by decide) (by decide) rfl ?_
  refine g_aloadN C (pc' := 53) d7_52 rfl rfl rfl ?_
  refine g_getF C (pc' := 56) (wd hw 17 rfl) Via.refl d7_53 rfl Fe rfl ?_
  refine g_iloadN C (pc' := 57) d7_56 rfl rfl ?_
  refine g_baload C (pc' := 58) (x := e0) d7_57 rfl Ae (by decide) (by decide) rfl rfl ?_
  exact g_breturn C d7_58 rfl (congrArg Value.int hb) (Nat.le_of_ble_eq_true rfl) (Nat.le_of_ble_eq_true rfl) (⟨rfl, rfl⟩)
set_option maxRecDepth 65536 in
set_option maxHeartbeats 40000000 in
theorem vtn_1 (l : Launch) (Z : State) (a0 : Array Value) (hw : ∀ d ∈ tables_1, d.before a0 Z = true) (n0 : Nat) (h : Heap) (O : Old Z n0 h) (s_BEGIN : Addr) (s_VALUE : Addr) (H : En Z s_BEGIN s_VALUE) (a t e v f : Addr) (kt ke kv kf : ClassId) (nx t0 t1 e0 e1 v0 v1 : Int32) (f0 f1 : Int64) (hty : ¬ t0 = 13) (hb : nar .byte e0 = e0) (P : EO Z n0 h a t e v f kt ke kv kf nx (1 : Int32) t0 t1 e0 e1 v0 v1 f0 f1) : Con l Z (⟨"com/example/strictwire/strictwire/EventOrder", "valueType", "()B"⟩ : MethodName) prog_6_method_7_code 3 (some .byte) ({ frames := 0, cells := 0, slots := 0, locals := 0 } : Room) #[(.ref a)] h n0 (fun r h' => r = some (.int e0) ∧ h' = h) := by
  refine Con.mk (Ls := #[.val (.ref a), .unset, .unset]) (plainFor_of_name pn_0) (fun m => by first | (simp [entryFrame, mkF, argsToLocals, Value.category]; done) | rfl) (fun w C => ?_)
  replace C : Cx w l Z "com/example/strictwire/strictwire/EventOrder" prog_6_method_7_code 3 (some .byte) "valueType" ({ frames := 0, cells := 0, slots := 0, locals := 0 } : Room) n0 := C
  obtain ⟨S_BEGIN, E_BEGIN, S_VALUE, E_VALUE, F_BEGIN_ordinal, F_VALUE_ordinal⟩ := id H
  obtain ⟨ga, gt, ge, gv, gf, n_a_t, n_a_e, n_a_v, n_a_f, n_t_e, n_t_v, n_t_f, n_e_v, n_e_f, n_v_f, E0, Ft, Fe, Fv, Ff, Fn, Fd, At, Ae, Av, Af⟩ := P
  refine g_aloadN C (pc' := 1) d7_0 rfl rfl rfl ?_
  refine g_getF C (pc' := 4) (wd hw 52 rfl) Via.refl d7_1 rfl Fd rfl ?_
  refine g_iconst C (pc' := 5) (v := (1 : Int32)) d7_4 (by decide) rfl ?_
  refine g_isub C (pc' := 6) d7_5 rfl rfl ?_
  rw [show ((1 : Int32) - (1 : Int32)) = (0 : Int32) from by decide]
  refine g_istoreN C (pc' := 7) (Ls' := #[.val (.ref a), .val (.int (0 : Int32)), .unset]) d7_6 rfl rfl rfl ?_
  refine g_aloadN C (pc' := 8) d7_7 rfl rfl rfl ?_
  refine g_getF C (pc' := 11) (wd hw 15 rfl) Via.refl d7_8 rfl Ft rfl ?_
  refine g_iloadN C (pc' := 12) d7_11 rfl rfl ?_
  refine g_baload C (pc' := 13) (x := t0) d7_12 rfl At (by decide) (by decide) rfl rfl ?_
  refine g_bipush C (pc' := 15) (v := (13 : Int32)) d7_13 (by decide) rfl ?_
  refine g_icY C (pc' := 37) d7_15 rfl (says_t (cd := .ne) (hty)) (by decide) rfl ?_
  refine g_iconst C (pc' := 38) (v := (0 : Int32)) d7_37 (by decide) rfl ?_
  refine g_istoreN C (pc' := 39) (Ls' := #[.val (.ref a), .val (.int (0 : Int32)), .val (.int (0 : Int32))]) d7_38 rfl rfl rfl ?_
  refine g_iloadN C (pc' := 40) d7_39 rfl rfl ?_
  refine g_ifY C (pc' := 52) d7_40 rfl (by decide) (by decide) rfl ?_
  refine g_aloadN C (pc' := 53) d7_52 rfl rfl rfl ?_
  refine g_getF C (pc' := 56) (wd hw 17 rfl) Via.refl d7_53 rfl Fe rfl ?_
  refine g_iloadN C (pc' := 57) d7_56 rfl rfl ?_
  refine g_baload C (pc' := 58) (x := e0) d7_57 rfl Ae (by decide) (by decide) rfl rfl ?_
  exact g_breturn C d7_58 rfl (congrArg Value.int hb) (Nat.le_of_ble_eq_true rfl) (Nat.le_of_ble_eq_true rfl) (⟨rfl, rfl⟩)
set_option maxRecDepth 65536 in
set_option maxHeartbeats 40000000 in
theorem take_2 (l : Launch) (Z : State) (a0 : Array Value) (hw : ∀ d ∈ tables_1, d.before a0 Z = true) (n0 : Nat) (h : Heap) (O : Old Z n0 h) (s_BEGIN : Addr) (s_VALUE : Addr) (H : En Z s_BEGIN s_VALUE) (a t e v f : Addr) (kt ke kv kf : ClassId) (nx t0 t1 e0 e1 v0 v1 : Int32) (f0 f1 : Int64) (hnz : ¬ (f1 - (1 : Int64)) = 0) (P : EO Z n0 h a t e v f kt ke kv kf nx (2 : Int32) t0 t1 e0 e1 v0 v1 f0 f1) : Con l Z (⟨"com/example/strictwire/strictwire/EventOrder", "takeValue", "()V"⟩ : MethodName) prog_6_method_13_code 3 none ({ frames := 0, cells := 0, slots := 0, locals := 0 } : Room) #[(.ref a)] h n0 (fun r h' => r = none ∧ Keep h h' [a, t, e, v, f] ∧ EO Z n0 h' a t e v f kt ke kv kf nx (2 : Int32) t0 t1 e0 e1 v0 v1 f0 (f1 - (1 : Int64))) := by
  refine Con.mk (Ls := #[.val (.ref a), .unset, .unset]) (plainFor_of_name pn_0) (fun m => by first | (simp [entryFrame, mkF, argsToLocals, Value.category]; done) | rfl) (fun w C => ?_)
  replace C : Cx w l Z "com/example/strictwire/strictwire/EventOrder" prog_6_method_13_code 3 none "takeValue" ({ frames := 0, cells := 0, slots := 0, locals := 0 } : Room) n0 := C
  obtain ⟨S_BEGIN, E_BEGIN, S_VALUE, E_VALUE, F_BEGIN_ordinal, F_VALUE_ordinal⟩ := id H
  obtain ⟨ga, gt, ge, gv, gf, n_a_t, n_a_e, n_a_v, n_a_f, n_t_e, n_t_v, n_t_f, n_e_v, n_e_f, n_v_f, E0, Ft, Fe, Fv, Ff, Fn, Fd, At, Ae, Av, Af⟩ := P
  refine g_aloadN C (pc' := 1) d9_0 rfl rfl rfl ?_
  refine g_getF C (pc' := 4) (wd hw 22 rfl) Via.refl d9_1 rfl Ff rfl ?_
  refine g_aloadN C (pc' := 5) d9_4 rfl rfl rfl ?_
  refine g_getF C (pc' := 8) (wd hw 52 rfl) Via.refl d9_5 rfl Fd rfl ?_
  refine g_iconst C (pc' := 9) (v := (1 : Int32)) d9_8 (by decide) rfl ?_
  refine g_isub C (pc' := 10) d9_9 rfl rfl ?_
  rw [show ((2 : Int32) - (1 : Int32)) = (1 : Int32) from by decide]
  refine g_dup2 C (pc' := 11) d9_10 rfl rfl rfl rfl ?_
  refine g_laload C (pc' := 12) (x := f1) d9_11 rfl Af (by decide) (by decide) rfl rfl ?_
  refine g_lconst C (pc' := 13) (v := (1 : Int64)) d9_12 (by decide) rfl ?_
  refine g_lsub C (pc' := 14) d9_13 rfl rfl ?_
  refine g_dup2_x2L C (pc' := 15) d9_14 rfl rfl ?_
  refine g_lastore C (pc' := 16) d9_15 rfl Af (by decide) (by decide) gf rfl (fun h417 W418 => ?_)
  have f419 := O.wr W418 gf
  have f420 := E0.wr W418
  have f421 := Ft.other W418 (Or.inl n_a_f)
  have f422 := At.other W418 n_t_f
  have f423 := Fe.other W418 (Or.inl n_a_f)
  have f424 := Ae.other W418 n_e_f
  have f425 := Fv.other W418 (Or.inl n_a_f)
  have f426 := Av.other W418 n_v_f
  have f427 := Ff.other W418 (Or.inl n_a_f)
  have f428 := (arv_put Af rfl W418 (i := 1) rfl (Nat.le_of_ble_eq_true rfl) : Arv Z h417 f kf .long (8 : Int32) [(.long f0), (.long (f1 - (1 : Int64))), (.long (0 : Int64)), (.long (0 : Int64)), (.long (0 : Int64)), (.long (0 : Int64)), (.long (0 : Int64)), (.long (0 : Int64))] (.long (0 : Int64)))
  have f429 := Fn.other W418 (Or.inl n_a_f)
  have f430 := Fd.other W418 (Or.inl n_a_f)
  have f431 := (Keep.refl h [a, t, e, v, f]).wr W418 (Or.inl (List.mem_of_getElem? (i := 4) rfl))
  refine g_lstoreN C (pc' := 17) (Ls' := #[.val (.ref a), .val (.long (f1 - (1 : Int64))), .second]) d9_16 rfl rfl rfl ?_
  refine g_lloadN C (pc' := 18) d9_17 rfl rfl ?_
  refine g_lconst C (pc' := 19) (v := (0 : Int64)) d9_18 (by decide) rfl ?_
  refine g_lcmp C (pc' := 20) d9_19 rfl rfl ?_
  refine g_ifY C (pc' := 33) d9_20 rfl (says_t (cd := .ne) (fun q => hnz ((lw_eq _ _).mp q))) (by decide) rfl ?_
  exact g_return C d9_33 rfl (Nat.le_of_ble_eq_true rfl) (Nat.le_of_ble_eq_true rfl) (⟨rfl, f431, ⟨ga, gt, ge, gv, gf, n_a_t, n_a_e, n_a_v, n_a_f, n_t_e, n_t_v, n_t_f, n_e_v, n_e_f, n_v_f, f420, f421, f423, f425, f427, f429, f430, f422, f424, f426, f428⟩⟩)
set_option maxRecDepth 65536 in
set_option maxHeartbeats 40000000 in
theorem vt1_2 (l : Launch) (Z : State) (a0 : Array Value) (hw : ∀ d ∈ tables_1, d.before a0 Z = true) (n0 : Nat) (h : Heap) (O : Old Z n0 h) (s_BEGIN : Addr) (s_VALUE : Addr) (H : En Z s_BEGIN s_VALUE) (a t e v f : Addr) (kt ke kv kf : ClassId) (nx t0 e0 e1 v0 v1 : Int32) (f0 f1 : Int64) (hod : (f1 - (f1 / (2 : Int64)) * (2 : Int64)) = 1) (hb : nar .byte v1 = v1) (P : EO Z n0 h a t e v f kt ke kv kf nx (2 : Int32) t0 (13 : Int32) e0 e1 v0 v1 f0 f1) : Con l Z (⟨"com/example/strictwire/strictwire/EventOrder", "valueType", "()B"⟩ : MethodName) prog_6_method_7_code 3 (some .byte) ({ frames := 0, cells := 0, slots := 0, locals := 0 } : Room) #[(.ref a)] h n0 (fun r h' => r = some (.int v1) ∧ h' = h) := by
  refine Con.mk (Ls := #[.val (.ref a), .unset, .unset]) (plainFor_of_name pn_0) (fun m => by first | (simp [entryFrame, mkF, argsToLocals, Value.category]; done) | rfl) (fun w C => ?_)
  replace C : Cx w l Z "com/example/strictwire/strictwire/EventOrder" prog_6_method_7_code 3 (some .byte) "valueType" ({ frames := 0, cells := 0, slots := 0, locals := 0 } : Room) n0 := C
  obtain ⟨S_BEGIN, E_BEGIN, S_VALUE, E_VALUE, F_BEGIN_ordinal, F_VALUE_ordinal⟩ := id H
  obtain ⟨ga, gt, ge, gv, gf, n_a_t, n_a_e, n_a_v, n_a_f, n_t_e, n_t_v, n_t_f, n_e_v, n_e_f, n_v_f, E0, Ft, Fe, Fv, Ff, Fn, Fd, At, Ae, Av, Af⟩ := P
  refine g_aloadN C (pc' := 1) d7_0 rfl rfl rfl ?_
  refine g_getF C (pc' := 4) (wd hw 52 rfl) Via.refl d7_1 rfl Fd rfl ?_
  refine g_iconst C (pc' := 5) (v := (1 : Int32)) d7_4 (by decide) rfl ?_
  refine g_isub C (pc' := 6) d7_5 rfl rfl ?_
  rw [show ((2 : Int32) - (1 : Int32)) = (1 : Int32) from by decide]
  refine g_istoreN C (pc' := 7) (Ls' := #[.val (.ref a), .val (.int (1 : Int32)), .unset]) d7_6 rfl rfl rfl ?_
  refine g_aloadN C (pc' := 8) d7_7 rfl rfl rfl ?_
  refine g_getF C (pc' := 11) (wd hw 15 rfl) Via.refl d7_8 rfl Ft rfl ?_
  refine g_iloadN C (pc' := 12) d7_11 rfl rfl ?_
  refine g_baload C (pc' := 13) (x := (13 : Int32)) d7_12 rfl At (by decide) (by decide) rfl rfl ?_
  refine g_bipush C (pc' := 15) (v := (13 : Int32)) d7_13 (by decide) rfl ?_
  refine g_icN C (pc' := 18) d7_15 rfl (by decide) rfl ?_
  refine g_aloadN C (pc' := 19) d7_18 rfl rfl rfl ?_
  refine g_getF C (pc' := 22) (wd hw 22 rfl) Via.refl d7_19 rfl Ff rfl ?_
  refine g_iloadN C (pc' := 23) d7_22 rfl rfl ?_
  refine g_laload C (pc' := 24) (x := f1) d7_23 rfl Af (by decide) (by decide) rfl rfl ?_
  refine g_ldc2Long C (pc' := 27) (wd hw 47 rfl) d7_24 rfl ?_
  refine g_lrem C (pc' := 28) d7_27 rfl (by decide) rfl ?_
  refine g_lconst C (pc' := 29) (v := (1 : Int64)) d7_28 (by decide) rfl ?_
  refine g_lcmp C (pc' := 30) d7_29 rfl rfl ?_
  refine g_ifN C (pc' := 33) d7_30 rfl (says_f (cd := .ne) (fun q => q ((lw_eq _ _).mpr hod))) rfl ?_
  refine g_iconst C (pc' := 34) (v := (1 : Int32)) d7_33 (by decide) rfl ?_
  refine g_goto C (pc' := 38) d7_34 (by decide) rfl ?_
  refine g_istoreN C (pc' := 39) (Ls' := #[.val (.ref a), .val (.int (1 : Int32)), .val (.int (1 : Int32))]) d7_38 rfl rfl rfl ?_
  refine g_iloadN C (pc' := 40) d7_39 rfl rfl ?_
  refine g_ifN C (pc' := 43) d7_40 rfl (by decide) rfl ?_
  refine g_aloadN C (pc' := 44) d7_43 rfl rfl rfl ?_
  refine g_getF C (pc' := 47) (wd hw 19 rfl) Via.refl d7_44 rfl Fv rfl ?_
  refine g_iloadN C (pc' := 48) d7_47 rfl rfl ?_
  refine g_baload C (pc' := 49) (x := v1) d7_48 rfl Av (by decide) (by decide) rfl rfl ?_
  refine g_goto C (pc' := 58) d7_49 (by decide) rfl ?_
  exact g_breturn C d7_58 rfl (congrArg Value.int hb) (Nat.le_of_ble_eq_true rfl) (Nat.le_of_ble_eq_true rfl) (⟨rfl, rfl⟩)
set_option maxRecDepth 65536 in
set_option maxHeartbeats 40000000 in
theorem vt0_2 (l : Launch) (Z : State) (a0 : Array Value) (hw : ∀ d ∈ tables_1, d.before a0 Z = true) (n0 : Nat) (h : Heap) (O : Old Z n0 h) (s_BEGIN : Addr) (s_VALUE : Addr) (H : En Z s_BEGIN s_VALUE) (a t e v f : Addr) (kt ke kv kf : ClassId) (nx t0 e0 e1 v0 v1 : Int32) (f0 f1 : Int64) (hod : ¬ (f1 - (f1 / (2 : Int64)) * (2 : Int64)) = 1) (hb : nar .byte e1 = e1) (P : EO Z n0 h a t e v f kt ke kv kf nx (2 : Int32) t0 (13 : Int32) e0 e1 v0 v1 f0 f1) : Con l Z (⟨"com/example/strictwire/strictwire/EventOrder", "valueType", "()B"⟩ : MethodName) prog_6_method_7_code 3 (some .byte) ({ frames := 0, cells := 0, slots := 0, locals := 0 } : Room) #[(.ref a)] h n0 (fun r h' => r = some (.int e1) ∧ h' = h) := by
  refine Con.mk (Ls := #[.val (.ref a), .unset, .unset]) (plainFor_of_name pn_0) (fun m => by first | (simp [entryFrame, mkF, argsToLocals, Value.category]; done) | rfl) (fun w C => ?_)
  replace C : Cx w l Z "com/example/strictwire/strictwire/EventOrder" prog_6_method_7_code 3 (some .byte) "valueType" ({ frames := 0, cells := 0, slots := 0, locals := 0 } : Room) n0 := C
  obtain ⟨S_BEGIN, E_BEGIN, S_VALUE, E_VALUE, F_BEGIN_ordinal, F_VALUE_ordinal⟩ := id H
  obtain ⟨ga, gt, ge, gv, gf, n_a_t, n_a_e, n_a_v, n_a_f, n_t_e, n_t_v, n_t_f, n_e_v, n_e_f, n_v_f, E0, Ft, Fe, Fv, Ff, Fn, Fd, At, Ae, Av, Af⟩ := P
  refine g_aloadN C (pc' := 1) d7_0 rfl rfl rfl ?_
  refine g_getF C (pc' := 4) (wd hw 52 rfl) Via.refl d7_1 rfl Fd rfl ?_
  refine g_iconst C (pc' := 5) (v := (1 : Int32)) d7_4 (by decide) rfl ?_
  refine g_isub C (pc' := 6) d7_5 rfl rfl ?_
  rw [show ((2 : Int32) - (1 : Int32)) = (1 : Int32) from by decide]
  refine g_istoreN C (pc' := 7) (Ls' := #[.val (.ref a), .val (.int (1 : Int32)), .unset]) d7_6 rfl rfl rfl ?_
  refine g_aloadN C (pc' := 8) d7_7 rfl rfl rfl ?_
  refine g_getF C (pc' := 11) (wd hw 15 rfl) Via.refl d7_8 rfl Ft rfl ?_
  refine g_iloadN C (pc' := 12) d7_11 rfl rfl ?_
  refine g_baload C (pc' := 13) (x := (13 : Int32)) d7_12 rfl At (by decide) (by decide) rfl rfl ?_
  refine g_bipush C (pc' := 15) (v := (13 : Int32)) d7_13 (by decide) rfl ?_
  refine g_icN C (pc' := 18) d7_15 rfl (by decide) rfl ?_
  refine g_aloadN C (pc' := 19) d7_18 rfl rfl rfl ?_
  refine g_getF C (pc' := 22) (wd hw 22 rfl) Via.refl d7_19 rfl Ff rfl ?_
  refine g_iloadN C (pc' := 23) d7_22 rfl rfl ?_
  refine g_laload C (pc' := 24) (x := f1) d7_23 rfl Af (by decide) (by decide) rfl rfl ?_
  refine g_ldc2Long C (pc' := 27) (wd hw 47 rfl) d7_24 rfl ?_
  refine g_lrem C (pc' := 28) d7_27 rfl (by decide) rfl ?_
  refine g_lconst C (pc' := 29) (v := (1 : Int64)) d7_28 (by decide) rfl ?_
  refine g_lcmp C (pc' := 30) d7_29 rfl rfl ?_
  refine g_ifY C (pc' := 37) d7_30 rfl (says_t (cd := .ne) (fun q => hod ((lw_eq _ _).mp q))) (by decide) rfl ?_
  refine g_iconst C (pc' := 38) (v := (0 : Int32)) d7_37 (by decide) rfl ?_
  refine g_istoreN C (pc' := 39) (Ls' := #[.val (.ref a), .val (.int (1 : Int32)), .val (.int (0 : Int32))]) d7_38 rfl rfl rfl ?_
  refine g_iloadN C (pc' := 40) d7_39 rfl rfl ?_
  refine g_ifY C (pc' := 52) d7_40 rfl (by decide) (by decide) rfl ?_
  refine g_aloadN C (pc' := 53) d7_52 rfl rfl rfl ?_
  refine g_getF C (pc' := 56) (wd hw 17 rfl) Via.refl d7_53 rfl Fe rfl ?_
  refine g_iloadN C (pc' := 57) d7_56 rfl rfl ?_
  refine g_baload C (pc' := 58) (x := e1) d7_57 rfl Ae (by decide) (by decide) rfl rfl ?_
  exact g_breturn C d7_58 rfl (congrArg Value.int hb) (Nat.le_of_ble_eq_true rfl) (Nat.le_of_ble_eq_true rfl) (⟨rfl, rfl⟩)
set_option maxRecDepth 65536 in
set_option maxHeartbeats 40000000 in
theorem vtn_2 (l : Launch) (Z : State) (a0 : Array Value) (hw : ∀ d ∈ tables_1, d.before a0 Z = true) (n0 : Nat) (h : Heap) (O : Old Z n0 h) (s_BEGIN : Addr) (s_VALUE : Addr) (H : En Z s_BEGIN s_VALUE) (a t e v f : Addr) (kt ke kv kf : ClassId) (nx t0 t1 e0 e1 v0 v1 : Int32) (f0 f1 : Int64) (hty : ¬ t1 = 13) (hb : nar .byte e1 = e1) (P : EO Z n0 h a t e v f kt ke kv kf nx (2 : Int32) t0 t1 e0 e1 v0 v1 f0 f1) : Con l Z (⟨"com/example/strictwire/strictwire/EventOrder", "valueType", "()B"⟩ : MethodName) prog_6_method_7_code 3 (some .byte) ({ frames := 0, cells := 0, slots := 0, locals := 0 } : Room) #[(.ref a)] h n0 (fun r h' => r = some (.int e1) ∧ h' = h) := by
  refine Con.mk (Ls := #[.val (.ref a), .unset, .unset]) (plainFor_of_name pn_0) (fun m => by first | (simp [entryFrame, mkF, argsToLocals, Value.category]; done) | rfl) (fun w C => ?_)
  replace C : Cx w l Z "com/example/strictwire/strictwire/EventOrder" prog_6_method_7_code 3 (some .byte) "valueType" ({ frames := 0, cells := 0, slots := 0, locals := 0 } : Room) n0 := C
  obtain ⟨S_BEGIN, E_BEGIN, S_VALUE, E_VALUE, F_BEGIN_ordinal, F_VALUE_ordinal⟩ := id H
  obtain ⟨ga, gt, ge, gv, gf, n_a_t, n_a_e, n_a_v, n_a_f, n_t_e, n_t_v, n_t_f, n_e_v, n_e_f, n_v_f, E0, Ft, Fe, Fv, Ff, Fn, Fd, At, Ae, Av, Af⟩ := P
  refine g_aloadN C (pc' := 1) d7_0 rfl rfl rfl ?_
  refine g_getF C (pc' := 4) (wd hw 52 rfl) Via.refl d7_1 rfl Fd rfl ?_
  refine g_iconst C (pc' := 5) (v := (1 : Int32)) d7_4 (by decide) rfl ?_
  refine g_isub C (pc' := 6) d7_5 rfl rfl ?_
  rw [show ((2 : Int32) - (1 : Int32)) = (1 : Int32) from by decide]
  refine g_istoreN C (pc' := 7) (Ls' := #[.val (.ref a), .val (.int (1 : Int32)), .unset]) d7_6 rfl rfl rfl ?_
  refine g_aloadN C (pc' := 8) d7_7 rfl rfl rfl ?_
  refine g_getF C (pc' := 11) (wd hw 15 rfl) Via.refl d7_8 rfl Ft rfl ?_
  refine g_iloadN C (pc' := 12) d7_11 rfl rfl ?_
  refine g_baload C (pc' := 13) (x := t1) d7_12 rfl At (by decide) (by decide) rfl rfl ?_
  refine g_bipush C (pc' := 15) (v := (13 : Int32)) d7_13 (by decide) rfl ?_
  refine g_icY C (pc' := 37) d7_15 rfl (says_t (cd := .ne) (hty)) (by decide) rfl ?_
  refine g_iconst C (pc' := 38) (v := (0 : Int32)) d7_37 (by decide) rfl ?_
  refine g_istoreN C (pc' := 39) (Ls' := #[.val (.ref a), .val (.int (1 : Int32)), .val (.int (0 : Int32))]) d7_38 rfl rfl rfl ?_
  refine g_iloadN C (pc' := 40) d7_39 rfl rfl ?_
  refine g_ifY C (pc' := 52) d7_40 rfl (by decide) (by decide) rfl ?_
  refine g_aloadN C (pc' := 53) d7_52 rfl rfl rfl ?_
  refine g_getF C (pc' := 56) (wd hw 17 rfl) Via.refl d7_53 rfl Fe rfl ?_
  refine g_iloadN C (pc' := 57) d7_56 rfl rfl ?_
  refine g_baload C (pc' := 58) (x := e1) d7_57 rfl Ae (by decide) (by decide) rfl rfl ?_
  exact g_breturn C d7_58 rfl (congrArg Value.int hb) (Nat.le_of_ble_eq_true rfl) (Nat.le_of_ble_eq_true rfl) (⟨rfl, rfl⟩)
theorem d1_0 : decode jdk_29_method_65_code 0 = .ok (.iload_n 0, 1) := by decide +kernel
theorem d1_1 : decode jdk_29_method_65_code 1 = .ok (.iload_n 1, 1) := by decide +kernel
theorem d1_2 : decode jdk_29_method_65_code 2 = .ok (.if_icmp .lt 7, 3) := by decide +kernel
theorem d1_9 : decode jdk_29_method_65_code 9 = .ok (.iload_n 1, 1) := by decide +kernel
theorem d1_10 : decode jdk_29_method_65_code 10 = .ok (.ireturn, 1) := by decide +kernel
set_option maxRecDepth 65536 in
set_option maxHeartbeats 40000000 in
theorem max_lt (l : Launch) (Z : State) (a0 : Array Value) (hw : ∀ d ∈ tables_1, d.before a0 Z = true) (n0 : Nat) (h : Heap) (O : Old Z n0 h) (s_BEGIN : Addr) (s_VALUE : Addr) (H : En Z s_BEGIN s_VALUE) (y : Int32) (hy : (4 : Int32) < y) : Con l Z (⟨"java/lang/Math", "max", "(II)I"⟩ : MethodName) jdk_29_method_65_code 2 (some .int) ({ frames := 0, cells := 0, slots := 0, locals := 0 } : Room) #[(.int (4 : Int32)), (.int y)] h n0 (fun v h' => v = some (.int y) ∧ h' = h) := by
  refine Con.mk (Ls := #[.val (.int (4 : Int32)), .val (.int y)]) (Jvm.Free.JP.mathPlain rfl (by decide +kernel)) (fun m => by first | (simp [entryFrame, mkF, argsToLocals, Value.category]; done) | rfl) (fun w C => ?_)
  replace C : Cx w l Z "java/lang/Math" jdk_29_method_65_code 2 (some .int) "max" ({ frames := 0, cells := 0, slots := 0, locals := 0 } : Room) n0 := C
  refine g_iloadN C (pc' := 1) d1_0 rfl rfl ?_
  refine g_iloadN C (pc' := 2) d1_1 rfl rfl ?_
  refine g_icY C (pc' := 9) d1_2 rfl (says_t (cd := .lt) (hy)) (by decide) rfl ?_
  refine g_iloadN C (pc' := 10) d1_9 rfl rfl ?_
  exact g_ireturn C d1_10 rfl (Nat.le_of_ble_eq_true rfl) (Nat.le_of_ble_eq_true rfl) (⟨rfl, rfl⟩)
theorem d1_5 : decode jdk_29_method_65_code 5 = .ok (.iload_n 0, 1) := by decide +kernel
theorem d1_6 : decode jdk_29_method_65_code 6 = .ok (.goto 4, 3) := by decide +kernel
set_option maxRecDepth 65536 in
set_option maxHeartbeats 40000000 in
theorem max_ge (l : Launch) (Z : State) (a0 : Array Value) (hw : ∀ d ∈ tables_1, d.before a0 Z = true) (n0 : Nat) (h : Heap) (O : Old Z n0 h) (s_BEGIN : Addr) (s_VALUE : Addr) (H : En Z s_BEGIN s_VALUE) (y : Int32) (hy : ¬ (4 : Int32) < y) : Con l Z (⟨"java/lang/Math", "max", "(II)I"⟩ : MethodName) jdk_29_method_65_code 2 (some .int) ({ frames := 0, cells := 0, slots := 0, locals := 0 } : Room) #[(.int (4 : Int32)), (.int y)] h n0 (fun v h' => v = some (.int (4 : Int32)) ∧ h' = h) := by
  refine Con.mk (Ls := #[.val (.int (4 : Int32)), .val (.int y)]) (Jvm.Free.JP.mathPlain rfl (by decide +kernel)) (fun m => by first | (simp [entryFrame, mkF, argsToLocals, Value.category]; done) | rfl) (fun w C => ?_)
  replace C : Cx w l Z "java/lang/Math" jdk_29_method_65_code 2 (some .int) "max" ({ frames := 0, cells := 0, slots := 0, locals := 0 } : Room) n0 := C
  refine g_iloadN C (pc' := 1) d1_0 rfl rfl ?_
  refine g_iloadN C (pc' := 2) d1_1 rfl rfl ?_
  refine g_icN C (pc' := 5) d1_2 rfl (says_f (cd := .lt) (hy)) rfl ?_
  refine g_iloadN C (pc' := 6) d1_5 rfl rfl ?_
  refine g_goto C (pc' := 10) d1_6 (by decide) rfl ?_
  exact g_ireturn C d1_10 rfl (Nat.le_of_ble_eq_true rfl) (Nat.le_of_ble_eq_true rfl) (⟨rfl, rfl⟩)
theorem own_nar (x : Int32) : nar .byte x.toInt8.toInt32 = x.toInt8.toInt32 := by
  show x.toInt8.toInt32.toInt8.toInt32 = _
  simp
theorem own_sz2 {z : Int32} (h : (4 : Int32) ≤ z) : 8 ≤ ((2 : Int64) * z.toInt64).toInt ∧ ((2 : Int64) * z.toInt64).toInt < 4294967296 ∧ ((2 : Int64) * z.toInt64).toInt % 2 = 0 := by
  have h1 := c_lmul 2 z.toInt64
  have h2 := rng64 ((2 : Int64) * z.toInt64)
  have h3 := rng32 z
  rw [Int32.le_iff_toInt_le] at h
  have e4 : (4 : Int32).toInt = 4 := by decide
  have e2 : (2 : Int64).toInt = 2 := by decide
  rw [c_i2l, e2] at h1
  omega
theorem own_sz1 {z : Int32} (h : (4 : Int32) ≤ z) : 4 ≤ z.toInt64.toInt ∧ z.toInt64.toInt < 4294967296 := by
  have h3 := rng32 z
  rw [Int32.le_iff_toInt_le] at h
  have e4 : (4 : Int32).toInt = 4 := by decide
  rw [c_i2l]; omega
theorem own_pos {l : Int64} (h : 4 ≤ l.toInt) : 0 < l := by
  rw [Int64.lt_iff_toInt_lt]; have e0 : (0 : Int64).toInt = 0 := by decide
  omega
theorem own_dec {l : Int64} {m : Int} (h : m ≤ l.toInt) (h1 : 1 ≤ m) (h2 : l.toInt < 4294967296) : (l - (1 : Int64)).toInt = l.toInt - 1 := by
  have q := c_lsub l 1
  have r := rng64 (l - 1)
  have e1 : (1 : Int64).toInt = 1 := by decide
  rw [e1] at q
  omega
theorem own_nz {l : Int64} (h : 1 ≤ l.toInt) : ¬ l = 0 := fun q => by
  subst q; have e0 : (0 : Int64).toInt = 0 := by decide
  omega
theorem own_odd {l : Int64} (h : 0 ≤ l.toInt) (q : l.toInt % 2 = 1) : (l - (l / (2 : Int64)) * (2 : Int64)) = 1 := by
  have r := (c_lrem l 2 2 (by decide)).1 h
  rw [← Int64.toInt_inj, r, q]; decide
theorem own_even {l : Int64} (h : 0 ≤ l.toInt) (q : l.toInt % 2 = 0) : ¬ (l - (l / (2 : Int64)) * (2 : Int64)) = 1 := by
  have r := (c_lrem l 2 2 (by decide)).1 h
  rw [← Int64.toInt_inj, r, q]; decide
theorem own_le {y : Int32} (h : (4 : Int32) < y) : (4 : Int32) ≤ y := by
  rw [Int32.le_iff_toInt_le]; rw [Int32.lt_iff_toInt_lt] at h; omega
theorem own_and3 (x : Int32) : (x &&& (3 : Int32)) = (0 : Int32) ∨ (x &&& (3 : Int32)) = (1 : Int32) ∨ (x &&& (3 : Int32)) = (2 : Int32) ∨ (x &&& (3 : Int32)) = (3 : Int32) := by
  have h2 := c_mask x 3 2 (by decide) (by decide)
  simp only [← Int32.toInt_inj, h2]
  have h3 : x.toInt % 4 = 0 ∨ x.toInt % 4 = 1 ∨ x.toInt % 4 = 2 ∨ x.toInt % 4 = 3 := by omega
  rcases h3 with h | h | h | h <;> simp [h]
def LQ : Option Value → Heap → Prop := fun v _ => v = some (.int (1 : Int32))
theorem pd_5 : parseMethodDescriptor "()B" = some ⟨[], some .byte⟩ := by decide +kernel
theorem pd_1 : parseMethodDescriptor "()V" = some ⟨[], none⟩ := by decide +kernel
theorem pd_3 : parseMethodDescriptor "(BBI)V" = some ⟨[.byte, .byte, .int], none⟩ := by decide +kernel
theorem pd_0 : parseMethodDescriptor "(II)I" = some ⟨[.int, .int], some .int⟩ := by decide +kernel
theorem pn_1 : plainName "com/example/strictwire/strictwire/EventOrderValueTypePinLaw" = true := by first | (simp [plainName, overriddenIn]; done) | decide +kernel
set_option maxRecDepth 65536 in
set_option maxHeartbeats 40000000 in
theorem rm0 (l : Launch) (Z : State) (a0 : Array Value) (hw : ∀ d ∈ tables_1, d.before a0 Z = true) (n0 : Nat) (h : Heap) (O : Old Z n0 h) (s_BEGIN : Addr) (s_VALUE : Addr) (H : En Z s_BEGIN s_VALUE) (p0 : Int32) (p1 : Int32) (p2 : Int32) (p3 : Int32) (p4 : Int32) (p5 : Int32) : Con l Z x code maxLocals ret room_1 #[(.int p0), (.int p1), (.int p2), (.int p3), (.int p4), (.int p5)] h n0 (LQ) := by
  refine Con.mk (Ls := #[.val (.int p0), .val (.int p1), .val (.int p2), .val (.int p3), .val (.int p4), .val (.int p5), .unset, .unset, .unset, .unset, .unset, .unset, .unset, .unset, .unset, .unset]) (plainFor_of_name pn_1) (fun m => by first | (simp [entryFrame, mkF, argsToLocals, Value.category, maxLocals]; done) | rfl) (fun w C => ?_)
  replace C : Cx w l Z "com/example/strictwire/strictwire/EventOrderValueTypePinLaw" code 16 (some .boolean) "law" room_1 n0 := C
  obtain ⟨S_BEGIN, E_BEGIN, S_VALUE, E_VALUE, F_BEGIN_ordinal, F_VALUE_ordinal⟩ := id H
  have JE11 : ∀ (h' : Heap) (O' : Old Z n0 h') (x8 x9 x10 x11 : Int32) (a t e v f : Addr) (kt ke kv kf : ClassId) (nx t1 e1 v1 : Int32) (f1 : Int64) (lf : Int64) (hl1 : 4 ≤ lf.toInt) (hl2 : lf.toInt < 4294967296) (hl3 : lf.toInt % 2 = 0) (P : EO Z n0 h' a t e v f kt ke kv kf nx (1 : Int32) (13 : Int32) t1 p0.toInt8.toInt32 e1 p1.toInt8.toInt32 v1 lf f1), G w LQ h' 6 50 137 #[.val (.int p0), .val (.int p1), .val (.int p2), .val (.int p3), .val (.int p4), .val (.int p5), .val (.int p0.toInt8.toInt32), .val (.int p1.toInt8.toInt32), .val (.int x8), .val (.int x9), .val (.int x10), .val (.int x11), .val (.int (p4 &&& (3 : Int32))), .val (.int (13 : Int32)), .val (.ref a), .unset] [] := by
    intro h' O' x8 x9 x10 x11 a t e v f kt ke kv kf nx t1 e1 v1 f1 lf hl1 hl2 hl3 P
    obtain ⟨ga, gt, ge, gv, gf, n_a_t, n_a_e, n_a_v, n_a_f, n_t_e, n_t_v, n_t_f, n_e_v, n_e_f, n_v_f, E0, -⟩ := id P
    rcases own_and3 p4 with e4 | e4 | e4 | e4
    · rw [e4]
      have d1 : (lf - (1 : Int64)).toInt = lf.toInt - 1 := own_dec (m := 4) hl1 (by decide) hl2
      have d2 : ((lf - (1 : Int64)) - (1 : Int64)).toInt = lf.toInt - 2 := by rw [own_dec (m := 3) (by omega) (by decide) (by omega), d1]; omega
      have d3 : (((lf - (1 : Int64)) - (1 : Int64)) - (1 : Int64)).toInt = lf.toInt - 3 := by rw [own_dec (m := 2) (by omega) (by decide) (by omega), d2]; omega
      have hq0 : 0 ≤ lf.toInt := by omega
      have hq1 : lf.toInt % 2 = 0 := by omega
      refine g_iload C (pc' := 139) at_137 rfl rfl ?_
      refine g_iconst C (pc' := 140) (v := (1 : Int32)) at_139 (by decide) rfl ?_
      refine g_icY C (pc' := 148) at_140 rfl (by decide) (by decide) rfl ?_
      refine g_iload C (pc' := 150) at_148 rfl rfl ?_
      refine g_iconst C (pc' := 151) (v := (2 : Int32)) at_150 (by decide) rfl ?_
      refine g_icY C (pc' := 159) at_151 rfl (by decide) (by decide) rfl ?_
      refine g_iload C (pc' := 161) at_159 rfl rfl ?_
      refine g_iconst C (pc' := 162) (v := (3 : Int32)) at_161 (by decide) rfl ?_
      refine g_icY C (pc' := 170) at_162 rfl (by decide) (by decide) rfl ?_
      refine g_iload C (pc' := 172) at_170 rfl rfl ?_
      refine g_bipush C (pc' := 174) (v := (13 : Int32)) at_172 (by decide) rfl ?_
      refine g_icN C (pc' := 177) at_174 rfl (by decide) rfl ?_
      refine g_iload C (pc' := 179) at_177 rfl rfl ?_
      refine g_iconst C (pc' := 180) (v := (1 : Int32)) at_179 (by decide) rfl ?_
      refine g_iand C (pc' := 181) at_180 rfl rfl ?_
      rw [show ((0 : Int32) &&& (1 : Int32)) = (0 : Int32) from by decide]
      refine g_iconst C (pc' := 182) (v := (1 : Int32)) at_181 (by decide) rfl ?_
      refine g_icY C (pc' := 192) at_182 rfl (by decide) (by decide) rfl ?_
      refine g_iload C (pc' := 194) at_192 rfl rfl ?_
      refine g_istore C (pc' := 196) (Ls' := #[.val (.int p0), .val (.int p1), .val (.int p2), .val (.int p3), .val (.int p4), .val (.int p5), .val (.int p0.toInt8.toInt32), .val (.int p1.toInt8.toInt32), .val (.int x8), .val (.int x9), .val (.int x10), .val (.int x11), .val (.int (0 : Int32)), .val (.int (13 : Int32)), .val (.ref a), .val (.int p0.toInt8.toInt32)]) at_194 rfl rfl rfl ?_
      refine g_aload C (pc' := 198) at_196 rfl rfl rfl ?_
      refine g_virtual C (pc' := 201) (k' := 6) (n' := 50) (argsL := []) (rest := []) (wd hw 56 rfl) (wd hw 57 rfl) (nfSel (wd hw 59 rfl)) (wd hw 59 rfl) (wd hw 58 rfl) (wd hw 7 rfl) (wd hw 60 rfl) (by decide) at_198 pd_5 rfl rfl rfl E0 (vt0_1 l Z a0 hw n0 h' O' s_BEGIN s_VALUE H a t e v f kt ke kv kf nx t1 p0.toInt8.toInt32 e1 p1.toInt8.toInt32 v1 lf f1 (own_even hq0 hq1) (own_nar _) P) (Nat.le_of_ble_eq_true rfl) (Nat.le_of_ble_eq_true rfl) (Nat.le_of_ble_eq_true rfl) (Nat.le_of_ble_eq_true rfl) rfl rfl rfl (fun v433 h432 q434 => ?_)
      obtain ⟨rfl, eh432⟩ := q434
      subst h432
      show G w _ h' 6 50 201 #[.val (.int p0), .val (.int p1), .val (.int p2), .val (.int p3), .val (.int p4), .val (.int p5), .val (.int p0.toInt8.toInt32), .val (.int p1.toInt8.toInt32), .val (.int x8), .val (.int x9), .val (.int x10), .val (.int x11), .val (.int (0 : Int32)), .val (.int (13 : Int32)), .val (.ref a), .val (.int p0.toInt8.toInt32)] [(.int p0.toInt8.toInt32)]
      refine g_iload C (pc' := 203) at_201 rfl rfl ?_
      refine g_icN C (pc' := 206) at_203 rfl (says_f (cd := .ne) (fun q => q rfl)) rfl ?_
      refine g_iconst C (pc' := 207) (v := (1 : Int32)) at_206 (by decide) rfl ?_
      refine g_goto C (pc' := 211) at_207 (by decide) rfl ?_
      exact g_zreturn C at_211 rfl rfl (Nat.le_of_ble_eq_true rfl) (Nat.le_of_ble_eq_true rfl) (rfl)
    · rw [e4]
      have d1 : (lf - (1 : Int64)).toInt = lf.toInt - 1 := own_dec (m := 4) hl1 (by decide) hl2
      have d2 : ((lf - (1 : Int64)) - (1 : Int64)).toInt = lf.toInt - 2 := by rw [own_dec (m := 3) (by omega) (by decide) (by omega), d1]; omega
      have d3 : (((lf - (1 : Int64)) - (1 : Int64)) - (1 : Int64)).toInt = lf.toInt - 3 := by rw [own_dec (m := 2) (by omega) (by decide) (by omega), d2]; omega
      have hq0 : 0 ≤ (lf - (1 : Int64)).toInt := by omega
      have hq1 : (lf - (1 : Int64)).toInt % 2 = 1 := by omega
      refine g_iload C (pc' := 139) at_137 rfl rfl ?_
      refine g_iconst C (pc' := 140) (v := (1 : Int32)) at_139 (by decide) rfl ?_
      refine g_icN C (pc' := 143) at_140 rfl (by decide) rfl ?_
      refine g_aload C (pc' := 145) at_143 rfl rfl rfl ?_
      refine g_virtual C (pc' := 148) (k' := 6) (n' := 50) (argsL := []) (rest := []) (wd hw 66 rfl) (wd hw 67 rfl) (nfSel (wd hw 69 rfl)) (wd hw 69 rfl) (wd hw 68 rfl) (wd hw 7 rfl) (wd hw 70 rfl) (by decide) at_145 pd_1 rfl rfl rfl E0 (take_1 l Z a0 hw n0 h' O' s_BEGIN s_VALUE H a t e v f kt ke kv kf nx (13 : Int32) t1 p0.toInt8.toInt32 e1 p1.toInt8.toInt32 v1 lf f1 (own_nz (by omega)) P) (Nat.le_of_ble_eq_true rfl) (Nat.le_of_ble_eq_true rfl) (Nat.le_of_ble_eq_true rfl) (Nat.le_of_ble_eq_true rfl) rfl rfl rfl (fun v438 h437 q439 => ?_)
      obtain ⟨rfl, K435, P436⟩ := q439
      have f440 := O'.keep K435 (allS ga (allS gt (allS ge (allS gv (allS gf all0)))))
      have f441 := E0.keep K435
      show G w _ h437 6 50 148 #[.val (.int p0), .val (.int p1), .val (.int p2), .val (.int p3), .val (.int p4), .val (.int p5), .val (.int p0.toInt8.toInt32), .val (.int p1.toInt8.toInt32), .val (.int x8), .val (.int x9), .val (.int x10), .val (.int x11), .val (.int (1 : Int32)), .val (.int (13 : Int32)), .val (.ref a), .unset] []
      refine g_iload C (pc' := 150) at_148 rfl rfl ?_
      refine g_iconst C (pc' := 151) (v := (2 : Int32)) at_150 (by decide) rfl ?_
      refine g_icY C (pc' := 159) at_151 rfl (by decide) (by decide) rfl ?_
      refine g_iload C (pc' := 161) at_159 rfl rfl ?_
      refine g_iconst C (pc' := 162) (v := (3 : Int32)) at_161 (by decide) rfl ?_
      refine g_icY C (pc' := 170) at_162 rfl (by decide) (by decide) rfl ?_
      refine g_iload C (pc' := 172) at_170 rfl rfl ?_
      refine g_bipush C (pc' := 174) (v := (13 : Int32)) at_172 (by decide) rfl ?_
      refine g_icN C (pc' := 177) at_174 rfl (by decide) rfl ?_
      refine g_iload C (pc' := 179) at_177 rfl rfl ?_
      refine g_iconst C (pc' := 180) (v := (1 : Int32)) at_179 (by decide) rfl ?_
      refine g_iand C (pc' := 181) at_180 rfl rfl ?_
      rw [show ((1 : Int32) &&& (1 : Int32)) = (1 : Int32) from by decide]
      refine g_iconst C (pc' := 182) (v := (1 : Int32)) at_181 (by decide) rfl ?_
      refine g_icN C (pc' := 185) at_182 rfl (by decide) rfl ?_
      refine g_iload C (pc' := 187) at_185 rfl rfl ?_
      refine g_istore C (pc' := 189) (Ls' := #[.val (.int p0), .val (.int p1), .val (.int p2), .val (.int p3), .val (.int p4), .val (.int p5), .val (.int p0.toInt8.toInt32), .val (.int p1.toInt8.toInt32), .val (.int x8), .val (.int x9), .val (.int x10), .val (.int x11), .val (.int (1 : Int32)), .val (.int (13 : Int32)), .val (.ref a), .val (.int p1.toInt8.toInt32)]) at_187 rfl rfl rfl ?_
      refine g_goto C (pc' := 196) at_189 (by decide) rfl ?_
      refine g_aload C (pc' := 198) at_196 rfl rfl rfl ?_
      refine g_virtual C (pc' := 201) (k' := 6) (n' := 50) (argsL := []) (rest := []) (wd hw 56 rfl) (wd hw 57 rfl) (nfSel (wd hw 59 rfl)) (wd hw 59 rfl) (wd hw 58 rfl) (wd hw 7 rfl) (wd hw 60 rfl) (by decide) at_198 pd_5 rfl rfl rfl f441 (vt1_1 l Z a0 hw n0 h437 f440 s_BEGIN s_VALUE H a t e v f kt ke kv kf nx t1 p0.toInt8.toInt32 e1 p1.toInt8.toInt32 v1 (lf - (1 : Int64)) f1 (own_odd hq0 hq1) (own_nar _) P436) (Nat.le_of_ble_eq_true rfl) (Nat.le_of_ble_eq_true rfl) (Nat.le_of_ble_eq_true rfl) (Nat.le_of_ble_eq_true rfl) rfl rfl rfl (fun v443 h442 q444 => ?_)
      obtain ⟨rfl, eh442⟩ := q444
      subst h442
      show G w _ h437 6 50 201 #[.val (.int p0), .val (.int p1), .val (.int p2), .val (.int p3), .val (.int p4), .val (.int p5), .val (.int p0.toInt8.toInt32), .val (.int p1.toInt8.toInt32), .val (.int x8), .val (.int x9), .val (.int x10), .val (.int x11), .val (.int (1 : Int32)), .val (.int (13 : Int32)), .val (.ref a), .val (.int p1.toInt8.toInt32)] [(.int p1.toInt8.toInt32)]
      refine g_iload C (pc' := 203) at_201 rfl rfl ?_
      refine g_icN C (pc' := 206) at_203 rfl (says_f (cd := .ne) (fun q => q rfl)) rfl ?_
      refine g_iconst C (pc' := 207) (v := (1 : Int32)) at_206 (by decide) rfl ?_
      refine g_goto C (pc' := 211) at_207 (by decide) rfl ?_
      exact g_zreturn C at_211 rfl rfl (Nat.le_of_ble_eq_true rfl) (Nat.le_of_ble_eq_true rfl) (rfl)
    · rw [e4]
      have d1 : (lf - (1 : Int64)).toInt = lf.toInt - 1 := own_dec (m := 4) hl1 (by decide) hl2
      have d2 : ((lf - (1 : Int64)) - (1 : Int64)).toInt = lf.toInt - 2 := by rw [own_dec (m := 3) (by omega) (by decide) (by omega), d1]; omega
      have d3 : (((lf - (1 : Int64)) - (1 : Int64)) - (1 : Int64)).toInt = lf.toInt - 3 := by rw [own_dec (m := 2) (by omega) (by decide) (by omega), d2]; omega
      have hq0 : 0 ≤ ((lf - (1 : Int64)) - (1 : Int64)).toInt := by omega
      have hq1 : ((lf - (1 : Int64)) - (1 : Int64)).toInt % 2 = 0 := by omega
      refine g_iload C (pc' := 139) at_137 rfl rfl ?_
      refine g_iconst C (pc' := 140) (v := (1 : Int32)) at_139 (by decide) rfl ?_
      refine g_icN C (pc' := 143) at_140 rfl (by decide) rfl ?_
      refine g_aload C (pc' := 145) at_143 rfl rfl rfl ?_
      refine g_virtual C (pc' := 148) (k' := 6) (n' := 50) (argsL := []) (rest := []) (wd hw 66 rfl) (wd hw 67 rfl) (nfSel (wd hw 69 rfl)) (wd hw 69 rfl) (wd hw 68 rfl) (wd hw 7 rfl) (wd hw 70 rfl) (by decide) at_145 pd_1 rfl rfl rfl E0 (take_1 l Z a0 hw n0 h' O' s_BEGIN s_VALUE H a t e v f kt ke kv kf nx (13 : Int32) t1 p0.toInt8.toInt32 e1 p1.toInt8.toInt32 v1 lf f1 (own_nz (by omega)) P) (Nat.le_of_ble_eq_true rfl) (Nat.le_of_ble_eq_true rfl) (Nat.le_of_ble_eq_true rfl) (Nat.le_of_ble_eq_true rfl) rfl rfl rfl (fun v448 h447 q449 => ?_)
      obtain ⟨rfl, K445, P446⟩ := q449
      have f450 := O'.keep K445 (allS ga (allS gt (allS ge (allS gv (allS gf all0)))))
      have f451 := E0.keep K445
      show G w _ h447 6 50 148 #[.val (.int p0), .val (.int p1), .val (.int p2), .val (.int p3), .val (.int p4), .val (.int p5), .val (.int p0.toInt8.toInt32), .val (.int p1.toInt8.toInt32), .val (.int x8), .val (.int x9), .val (.int x10), .val (.int x11), .val (.int (2 : Int32)), .val (.int (13 : Int32)), .val (.ref a), .unset] []
      refine g_iload C (pc' := 150) at_148 rfl rfl ?_
      refine g_iconst C (pc' := 151) (v := (2 : Int32)) at_150 (by decide) rfl ?_
      refine g_icN C (pc' := 154) at_151 rfl (by decide) rfl ?_
      refine g_aload C (pc' := 156) at_154 rfl rfl rfl ?_
      refine g_virtual C (pc' := 159) (k' := 6) (n' := 50) (argsL := []) (rest := []) (wd hw 66 rfl) (wd hw 67 rfl) (nfSel (wd hw 69 rfl)) (wd hw 69 rfl) (wd hw 68 rfl) (wd hw 7 rfl) (wd hw 70 rfl) (by decide) at_156 pd_1 rfl rfl rfl f451 (take_1 l Z a0 hw n0 h447 f450 s_BEGIN s_VALUE H a t e v f kt ke kv kf nx (13 : Int32) t1 p0.toInt8.toInt32 e1 p1.toInt8.toInt32 v1 (lf - (1 : Int64)) f1 (own_nz (by omega)) P446) (Nat.le_of_ble_eq_true rfl) (Nat.le_of_ble_eq_true rfl) (Nat.le_of_ble_eq_true rfl) (Nat.le_of_ble_eq_true rfl) rfl rfl rfl (fun v455 h454 q456 => ?_)
      obtain ⟨rfl, K452, P453⟩ := q456
      have f457 := f450.keep K452 (allS ga (allS gt (allS ge (allS gv (allS gf all0)))))
      have f458 := f451.keep K452
      show G w _ h454 6 50 159 #[.val (.int p0), .val (.int p1), .val (.int p2), .val (.int p3), .val (.int p4), .val (.int p5), .val (.int p0.toInt8.toInt32), .val (.int p1.toInt8.toInt32), .val (.int x8), .val (.int x9), .val (.int x10), .val (.int x11), .val (.int (2 : Int32)), .val (.int (13 : Int32)), .val (.ref a), .unset] []
      refine g_iload C (pc' := 161) at_159 rfl rfl ?_
      refine g_iconst C (pc' := 162) (v := (3 : Int32)) at_161 (by decide) rfl ?_
      refine g_icY C (pc' := 170) at_162 rfl (by decide) (by decide) rfl ?_
      refine g_iload C (pc' := 172) at_170 rfl rfl ?_
      refine g_bipush C (pc' := 174) (v := (13 : Int32)) at_172 (by decide) rfl ?_
      refine g_icN C (pc' := 177) at_174 rfl (by decide) rfl ?_
      refine g_iload C (pc' := 179) at_177 rfl rfl ?_
      refine g_iconst C (pc' := 180) (v := (1 : Int32)) at_179 (by decide) rfl ?_
      refine g_iand C (pc' := 181) at_180 rfl rfl ?_
      rw [show ((2 : Int32) &&& (1 : Int32)) = (0 : Int32) from by decide]
      refine g_iconst C (pc' := 182) (v := (1 : Int32)) at_181 (by decide) rfl ?_
      refine g_icY C (pc' := 192) at_182 rfl (by decide) (by decide) rfl ?_
      refine g_iload C (pc' := 194) at_192 rfl rfl ?_
      refine g_istore C (pc' := 196) (Ls' := #[.val (.int p0), .val (.int p1), .val (.int p2), .val (.int p3), .val (.int p4), .val (.int p5), .val (.int p0.toInt8.toInt32), .val (.int p1.toInt8.toInt32), .val (.int x8), .val (.int x9), .val (.int x10), .val (.int x11), .val (.int (2 : Int32)), .val (.int (13 : Int32)), .val (.ref a), .val (.int p0.toInt8.toInt32)]) at_194 rfl rfl rfl ?_
      refine g_aload C (pc' := 198) at_196 rfl rfl rfl ?_
      refine g_virtual C (pc' := 201) (k' := 6) (n' := 50) (argsL := []) (rest := []) (wd hw 56 rfl) (wd hw 57 rfl) (nfSel (wd hw 59 rfl)) (wd hw 59 rfl) (wd hw 58 rfl) (wd hw 7 rfl) (wd hw 60 rfl) (by decide) at_198 pd_5 rfl rfl rfl f458 (vt0_1 l Z a0 hw n0 h454 f457 s_BEGIN s_VALUE H a t e v f kt ke kv kf nx t1 p0.toInt8.toInt32 e1 p1.toInt8.toInt32 v1 ((lf - (1 : Int64)) - (1 : Int64)) f1 (own_even hq0 hq1) (own_nar _) P453) (Nat.le_of_ble_eq_true rfl) (Nat.le_of_ble_eq_true rfl) (Nat.le_of_ble_eq_true rfl) (Nat.le_of_ble_eq_true rfl) rfl rfl rfl (fun v460 h459 q461 => ?_)
      obtain ⟨rfl, eh459⟩ := q461
      subst h459
      show G w _ h454 6 50 201 #[.val (.int p0), .val (.int p1), .val (.int p2), .val (.int p3), .val (.int p4), .val (.int p5), .val (.int p0.toInt8.toInt32), .val (.int p1.toInt8.toInt32), .val (.int x8), .val (.int x9), .val (.int x10), .val (.int x11), .val (.int (2 : Int32)), .val (.int (13 : Int32)), .val (.ref a), .val (.int p0.toInt8.toInt32)] [(.int p0.toInt8.toInt32)]
      refine g_iload C (pc' := 203) at_201 rfl rfl ?_
      refine g_icN C (pc' := 206) at_203 rfl (says_f (cd := .ne) (fun q => q rfl)) rfl ?_
      refine g_iconst C (pc' := 207) (v := (1 : Int32)) at_206 (by decide) rfl ?_
      refine g_goto C (pc' := 211) at_207 (by decide) rfl ?_
      exact g_zreturn C at_211 rfl rfl (Nat.le_of_ble_eq_true rfl) (Nat.le_of_ble_eq_true rfl) (rfl)
    · rw [e4]
      have d1 : (lf - (1 : Int64)).toInt = lf.toInt - 1 := own_dec (m := 4) hl1 (by decide) hl2
      have d2 : ((lf - (1 : Int64)) - (1 : Int64)).toInt = lf.toInt - 2 := by rw [own_dec (m := 3) (by omega) (by decide) (by omega), d1]; omega
      have d3 : (((lf - (1 : Int64)) - (1 : Int64)) - (1 : Int64)).toInt = lf.toInt - 3 := by rw [own_dec (m := 2) (by omega) (by decide) (by omega), d2]; omega
      have hq0 : 0 ≤ (((lf - (1 : Int64)) - (1 : Int64)) - (1 : Int64)).toInt := by omega
      have hq1 : (((lf - (1 : Int64)) - (1 : Int64)) - (1 : Int64)).toInt % 2 = 1 := by omega
      refine g_iload C (pc' := 139) at_137 rfl rfl ?_
      refine g_iconst C (pc' := 140) (v := (1 : Int32)) at_139 (by decide) rfl ?_
      refine g_icN C (pc' := 143) at_140 rfl (by decide) rfl ?_
      refine g_aload C (pc' := 145) at_143 rfl rfl rfl ?_
      refine g_virtual C (pc' := 148) (k' := 6) (n' := 50) (argsL := []) (rest := []) (wd hw 66 rfl) (wd hw 67 rfl) (nfSel (wd hw 69 rfl)) (wd hw 69 rfl) (wd hw 68 rfl) (wd hw 7 rfl) (wd hw 70 rfl) (by decide) at_145 pd_1 rfl rfl rfl E0 (take_1 l Z a0 hw n0 h' O' s_BEGIN s_VALUE H a t e v f kt ke kv kf nx (13 : Int32) t1 p0.toInt8.toInt32 e1 p1.toInt8.toInt32 v1 lf f1 (own_nz (by omega)) P) (Nat.le_of_ble_eq_true rfl) (Nat.le_of_ble_eq_true rfl) (Nat.le_of_ble_eq_true rfl) (Nat.le_of_ble_eq_true rfl) rfl rfl rfl (fun v465 h464 q466 => ?_)
      obtain ⟨rfl, K462, P463⟩ := q466
      have f467 := O'.keep K462 (allS ga (allS gt (allS ge (allS gv (allS gf all0)))))
      have f468 := E0.keep K462
      show G w _ h464 6 50 148 #[.val (.int p0), .val (.int p1), .val (.int p2), .val (.int p3), .val (.int p4), .val (.int p5), .val (.int p0.toInt8.toInt32), .val (.int p1.toInt8.toInt32), .val (.int x8), .val (.int x9), .val (.int x10), .val (.int x11), .val (.int (3 : Int32)), .val (.int (13 : Int32)), .val (.ref a), .unset] []
      refine g_iload C (pc' := 150) at_148 rfl rfl ?_
      refine g_iconst C (pc' := 151) (v := (2 : Int32)) at_150 (by decide) rfl ?_
      refine g_icN C (pc' := 154) at_151 rfl (by decide) rfl ?_
      refine g_aload C (pc' := 156) at_154 rfl rfl rfl ?_
      refine g_virtual C (pc' := 159) (k' := 6) (n' := 50) (argsL := []) (rest := []) (wd hw 66 rfl) (wd hw 67 rfl) (nfSel (wd hw 69 rfl)) (wd hw 69 rfl) (wd hw 68 rfl) (wd hw 7 rfl) (wd hw 70 rfl) (by decide) at_156 pd_1 rfl rfl rfl f468 (take_1 l Z a0 hw n0 h464 f467 s_BEGIN s_VALUE H a t e v f kt ke kv kf nx (13 : Int32) t1 p0.toInt8.toInt32 e1 p1.toInt8.toInt32 v1 (lf - (1 : Int64)) f1 (own_nz (by omega)) P463) (Nat.le_of_ble_eq_true rfl) (Nat.le_of_ble_eq_true rfl) (Nat.le_of_ble_eq_true rfl) (Nat.le_of_ble_eq_true rfl) rfl rfl rfl (fun v472 h471 q473 => ?_)
      obtain ⟨rfl, K469, P470⟩ := q473
      have f474 := f467.keep K469 (allS ga (allS gt (allS ge (allS gv (allS gf all0)))))
      have f475 := f468.keep K469
      show G w _ h471 6 50 159 #[.val (.int p0), .val (.int p1), .val (.int p2), .val (.int p3), .val (.int p4), .val (.int p5), .val (.int p0.toInt8.toInt32), .val (.int p1.toInt8.toInt32), .val (.int x8), .val (.int x9), .val (.int x10), .val (.int x11), .val (.int (3 : Int32)), .val (.int (13 : Int32)), .val (.ref a), .unset] []
      refine g_iload C (pc' := 161) at_159 rfl rfl ?_
      refine g_iconst C (pc' := 162) (v := (3 : Int32)) at_161 (by decide) rfl ?_
      refine g_icN C (pc' := 165) at_162 rfl (by decide) rfl ?_
      refine g_aload C (pc' := 167) at_165 rfl rfl rfl ?_
      refine g_virtual C (pc' := 170) (k' := 6) (n' := 50) (argsL := []) (rest := []) (wd hw 66 rfl) (wd hw 67 rfl) (nfSel (wd hw 69 rfl)) (wd hw 69 rfl) (wd hw 68 rfl) (wd hw 7 rfl) (wd hw 70 rfl) (by decide) at_167 pd_1 rfl rfl rfl f475 (take_1 l Z a0 hw n0 h471 f474 s_BEGIN s_VALUE H a t e v f kt ke kv kf nx (13 : Int32) t1 p0.toInt8.toInt32 e1 p1.toInt8.toInt32 v1 ((lf - (1 : Int64)) - (1 : Int64)) f1 (own_nz (by omega)) P470) (Nat.le_of_ble_eq_true rfl) (Nat.le_of_ble_eq_true rfl) (Nat.le_of_ble_eq_true rfl) (Nat.le_of_ble_eq_true rfl) rfl rfl rfl (fun v479 h478 q480 => ?_)
      obtain ⟨rfl, K476, P477⟩ := q480
      have f481 := f474.keep K476 (allS ga (allS gt (allS ge (allS gv (allS gf all0)))))
      have f482 := f475.keep K476
      show G w _ h478 6 50 170 #[.val (.int p0), .val (.int p1), .val (.int p2), .val (.int p3), .val (.int p4), .val (.int p5), .val (.int p0.toInt8.toInt32), .val (.int p1.toInt8.toInt32), .val (.int x8), .val (.int x9), .val (.int x10), .val (.int x11), .val (.int (3 : Int32)), .val (.int (13 : Int32)), .val (.ref a), .unset] []
      refine g_iload C (pc' := 172) at_170 rfl rfl ?_
      refine g_bipush C (pc' := 174) (v := (13 : Int32)) at_172 (by decide) rfl ?_
      refine g_icN C (pc' := 177) at_174 rfl (by decide) rfl ?_
      refine g_iload C (pc' := 179) at_177 rfl rfl ?_
      refine g_iconst C (pc' := 180) (v := (1 : Int32)) at_179 (by decide) rfl ?_
      refine g_iand C (pc' := 181) at_180 rfl rfl ?_
      rw [show ((3 : Int32) &&& (1 : Int32)) = (1 : Int32) from by decide]
      refine g_iconst C (pc' := 182) (v := (1 : Int32)) at_181 (by decide) rfl ?_
      refine g_icN C (pc' := 185) at_182 rfl (by decide) rfl ?_
      refine g_iload C (pc' := 187) at_185 rfl rfl ?_
      refine g_istore C (pc' := 189) (Ls' := #[.val (.int p0), .val (.int p1), .val (.int p2), .val (.int p3), .val (.int p4), .val (.int p5), .val (.int p0.toInt8.toInt32), .val (.int p1.toInt8.toInt32), .val (.int x8), .val (.int x9), .val (.int x10), .val (.int x11), .val (.int (3 : Int32)), .val (.int (13 : Int32)), .val (.ref a), .val (.int p1.toInt8.toInt32)]) at_187 rfl rfl rfl ?_
      refine g_goto C (pc' := 196) at_189 (by decide) rfl ?_
      refine g_aload C (pc' := 198) at_196 rfl rfl rfl ?_
      refine g_virtual C (pc' := 201) (k' := 6) (n' := 50) (argsL := []) (rest := []) (wd hw 56 rfl) (wd hw 57 rfl) (nfSel (wd hw 59 rfl)) (wd hw 59 rfl) (wd hw 58 rfl) (wd hw 7 rfl) (wd hw 60 rfl) (by decide) at_198 pd_5 rfl rfl rfl f482 (vt1_1 l Z a0 hw n0 h478 f481 s_BEGIN s_VALUE H a t e v f kt ke kv kf nx t1 p0.toInt8.toInt32 e1 p1.toInt8.toInt32 v1 (((lf - (1 : Int64)) - (1 : Int64)) - (1 : Int64)) f1 (own_odd hq0 hq1) (own_nar _) P477) (Nat.le_of_ble_eq_true rfl) (Nat.le_of_ble_eq_true rfl) (Nat.le_of_ble_eq_true rfl) (Nat.le_of_ble_eq_true rfl) rfl rfl rfl (fun v484 h483 q485 => ?_)
      obtain ⟨rfl, eh483⟩ := q485
      subst h483
      show G w _ h478 6 50 201 #[.val (.int p0), .val (.int p1), .val (.int p2), .val (.int p3), .val (.int p4), .val (.int p5), .val (.int p0.toInt8.toInt32), .val (.int p1.toInt8.toInt32), .val (.int x8), .val (.int x9), .val (.int x10), .val (.int x11), .val (.int (3 : Int32)), .val (.int (13 : Int32)), .val (.ref a), .val (.int p1.toInt8.toInt32)] [(.int p1.toInt8.toInt32)]
      refine g_iload C (pc' := 203) at_201 rfl rfl ?_
      refine g_icN C (pc' := 206) at_203 rfl (says_f (cd := .ne) (fun q => q rfl)) rfl ?_
      refine g_iconst C (pc' := 207) (v := (1 : Int32)) at_206 (by decide) rfl ?_
      refine g_goto C (pc' := 211) at_207 (by decide) rfl ?_
      exact g_zreturn C at_211 rfl rfl (Nat.le_of_ble_eq_true rfl) (Nat.le_of_ble_eq_true rfl) (rfl)
  have JE10 : ∀ (h' : Heap) (O' : Old Z n0 h') (x8 x9 x10 x11 : Int32) (a t e v f : Addr) (kt ke kv kf : ClassId) (nx t1 e1 v0 v1 : Int32) (f1 : Int64) (tt : Int32) (htt : ¬ tt = 13) (lf : Int64) (hl1 : 4 ≤ lf.toInt) (hl2 : lf.toInt < 4294967296) (P : EO Z n0 h' a t e v f kt ke kv kf nx (1 : Int32) tt t1 p0.toInt8.toInt32 e1 v0 v1 lf f1), G w LQ h' 6 50 137 #[.val (.int p0), .val (.int p1), .val (.int p2), .val (.int p3), .val (.int p4), .val (.int p5), .val (.int p0.toInt8.toInt32), .val (.int p1.toInt8.toInt32), .val (.int x8), .val (.int x9), .val (.int x10), .val (.int x11), .val (.int (p4 &&& (3 : Int32))), .val (.int tt), .val (.ref a), .unset] [] := by
    intro h' O' x8 x9 x10 x11 a t e v f kt ke kv kf nx t1 e1 v0 v1 f1 tt htt lf hl1 hl2 P
    obtain ⟨ga, gt, ge, gv, gf, n_a_t, n_a_e, n_a_v, n_a_f, n_t_e, n_t_v, n_t_f, n_e_v, n_e_f, n_v_f, E0, -⟩ := id P
    rcases own_and3 p4 with e4 | e4 | e4 | e4
    · rw [e4]
      have d1 : (lf - (1 : Int64)).toInt = lf.toInt - 1 := own_dec (m := 4) hl1 (by decide) hl2
      have d2 : ((lf - (1 : Int64)) - (1 : Int64)).toInt = lf.toInt - 2 := by rw [own_dec (m := 3) (by omega) (by decide) (by omega), d1]; omega
      have d3 : (((lf - (1 : Int64)) - (1 : Int64)) - (1 : Int64)).toInt = lf.toInt - 3 := by rw [own_dec (m := 2) (by omega) (by decide) (by omega), d2]; omega
      have hq0 : 0 ≤ lf.toInt := by omega
      refine g_iload C (pc' := 139) at_137 rfl rfl ?_
      refine g_iconst C (pc' := 140) (v := (1 : Int32)) at_139 (by decide) rfl ?_
      refine g_icY C (pc' := 148) at_140 rfl (by decide) (by decide) rfl ?_
      refine g_iload C (pc' := 150) at_148 rfl rfl ?_
      refine g_iconst C (pc' := 151) (v := (2 : Int32)) at_150 (by decide) rfl ?_
      refine g_icY C (pc' := 159) at_151 rfl (by decide) (by decide) rfl ?_
      refine g_iload C (pc' := 161) at_159 rfl rfl ?_
      refine g_iconst C (pc' := 162) (v := (3 : Int32)) at_161 (by decide) rfl ?_
      refine g_icY C (pc' := 170) at_162 rfl (by decide) (by decide) rfl ?_
      refine g_iload C (pc' := 172) at_170 rfl rfl ?_
      refine g_bipush C (pc' := 174) (v := (13 : Int32)) at_172 (by decide) rfl ?_
      refine g_icY C (pc' := 192) at_174 rfl (says_t (cd := .ne) (htt)) (by decide) rfl ?_
      refine g_iload C (pc' := 194) at_192 rfl rfl ?_
      refine g_istore C (pc' := 196) (Ls' := #[.val (.int p0), .val (.int p1), .val (.int p2), .val (.int p3), .val (.int p4), .val (.int p5), .val (.int p0.toInt8.toInt32), .val (.int p1.toInt8.toInt32), .val (.int x8), .val (.int x9), .val (.int x10), .val (.int x11), .val (.int (0 : Int32)), .val (.int tt), .val (.ref a), .val (.int p0.toInt8.toInt32)]) at_194 rfl rfl rfl ?_
      refine g_aload C (pc' := 198) at_196 rfl rfl rfl ?_
      refine g_virtual C (pc' := 201) (k' := 6) (n' := 50) (argsL := []) (rest := []) (wd hw 56 rfl) (wd hw 57 rfl) (nfSel (wd hw 59 rfl)) (wd hw 59 rfl) (wd hw 58 rfl) (wd hw 7 rfl) (wd hw 60 rfl) (by decide) at_198 pd_5 rfl rfl rfl E0 (vtn_1 l Z a0 hw n0 h' O' s_BEGIN s_VALUE H a t e v f kt ke kv kf nx tt t1 p0.toInt8.toInt32 e1 v0 v1 lf f1 htt (own_nar _) P) (Nat.le_of_ble_eq_true rfl) (Nat.le_of_ble_eq_true rfl) (Nat.le_of_ble_eq_true rfl) (Nat.le_of_ble_eq_true rfl) rfl rfl rfl (fun v487 h486 q488 => ?_)
      obtain ⟨rfl, eh486⟩ := q488
      subst h486
      show G w _ h' 6 50 201 #[.val (.int p0), .val (.int p1), .val (.int p2), .val (.int p3), .val (.int p4), .val (.int p5), .val (.int p0.toInt8.toInt32), .val (.int p1.toInt8.toInt32), .val (.int x8), .val (.int x9), .val (.int x10), .val (.int x11), .val (.int (0 : Int32)), .val (.int tt), .val (.ref a), .val (.int p0.toInt8.toInt32)] [(.int p0.toInt8.toInt32)]
      refine g_iload C (pc' := 203) at_201 rfl rfl ?_
      refine g_icN C (pc' := 206) at_203 rfl (says_f (cd := .ne) (fun q => q rfl)) rfl ?_
      refine g_iconst C (pc' := 207) (v := (1 : Int32)) at_206 (by decide) rfl ?_
      refine g_goto C (pc' := 211) at_207 (by decide) rfl ?_
      exact g_zreturn C at_211 rfl rfl (Nat.le_of_ble_eq_true rfl) (Nat.le_of_ble_eq_true rfl) (rfl)
    · rw [e4]
      have d1 : (lf - (1 : Int64)).toInt = lf.toInt - 1 := own_dec (m := 4) hl1 (by decide) hl2
      have d2 : ((lf - (1 : Int64)) - (1 : Int64)).toInt = lf.toInt - 2 := by rw [own_dec (m := 3) (by omega) (by decide) (by omega), d1]; omega
      have d3 : (((lf - (1 : Int64)) - (1 : Int64)) - (1 : Int64)).toInt = lf.toInt - 3 := by rw [own_dec (m := 2) (by omega) (by decide) (by omega), d2]; omega
      have hq0 : 0 ≤ (lf - (1 : Int64)).toInt := by omega
      refine g_iload C (pc' := 139) at_137 rfl rfl ?_
      refine g_iconst C (pc' := 140) (v := (1 : Int32)) at_139 (by decide) rfl ?_
      refine g_icN C (pc' := 143) at_140 rfl (by decide) rfl ?_
      refine g_aload C (pc' := 145) at_143 rfl rfl rfl ?_
      refine g_virtual C (pc' := 148) (k' := 6) (n' := 50) (argsL := []) (rest := []) (wd hw 66 rfl) (wd hw 67 rfl) (nfSel (wd hw 69 rfl)) (wd hw 69 rfl) (wd hw 68 rfl) (wd hw 7 rfl) (wd hw 70 rfl) (by decide) at_145 pd_1 rfl rfl rfl E0 (take_1 l Z a0 hw n0 h' O' s_BEGIN s_VALUE H a t e v f kt ke kv kf nx tt t1 p0.toInt8.toInt32 e1 v0 v1 lf f1 (own_nz (by omega)) P) (Nat.le_of_ble_eq_true rfl) (Nat.le_of_ble_eq_true rfl) (Nat.le_of_ble_eq_true rfl) (Nat.le_of_ble_eq_true rfl) rfl rfl rfl (fun v492 h491 q493 => ?_)
      obtain ⟨rfl, K489, P490⟩ := q493
      have f494 := O'.keep K489 (allS ga (allS gt (allS ge (allS gv (allS gf all0)))))
      have f495 := E0.keep K489
      show G w _ h491 6 50 148 #[.val (.int p0), .val (.int p1), .val (.int p2), .val (.int p3), .val (.int p4), .val (.int p5), .val (.int p0.toInt8.toInt32), .val (.int p1.toInt8.toInt32), .val (.int x8), .val (.int x9), .val (.int x10), .val (.int x11), .val (.int (1 : Int32)), .val (.int tt), .val (.ref a), .unset] []
      refine g_iload C (pc' := 150) at_148 rfl rfl ?_
      refine g_iconst C (pc' := 151) (v := (2 : Int32)) at_150 (by decide) rfl ?_
      refine g_icY C (pc' := 159) at_151 rfl (by decide) (by decide) rfl ?_
      refine g_iload C (pc' := 161) at_159 rfl rfl ?_
      refine g_iconst C (pc' := 162) (v := (3 : Int32)) at_161 (by decide) rfl ?_
      refine g_icY C (pc' := 170) at_162 rfl (by decide) (by decide) rfl ?_
      refine g_iload C (pc' := 172) at_170 rfl rfl ?_
      refine g_bipush C (pc' := 174) (v := (13 : Int32)) at_172 (by decide) rfl ?_
      refine g_icY C (pc' := 192) at_174 rfl (says_t (cd := .ne) (htt)) (by decide) rfl ?_
      refine g_iload C (pc' := 194) at_192 rfl rfl ?_
      refine g_istore C (pc' := 196) (Ls' := #[.val (.int p0), .val (.int p1), .val (.int p2), .val (.int p3), .val (.int p4), .val (.int p5), .val (.int p0.toInt8.toInt32), .val (.int p1.toInt8.toInt32), .val (.int x8), .val (.int x9), .val (.int x10), .val (.int x11), .val (.int (1 : Int32)), .val (.int tt), .val (.ref a), .val (.int p0.toInt8.toInt32)]) at_194 rfl rfl rfl ?_
      refine g_aload C (pc' := 198) at_196 rfl rfl rfl ?_
      refine g_virtual C (pc' := 201) (k' := 6) (n' := 50) (argsL := []) (rest := []) (wd hw 56 rfl) (wd hw 57 rfl) (nfSel (wd hw 59 rfl)) (wd hw 59 rfl) (wd hw 58 rfl) (wd hw 7 rfl) (wd hw 60 rfl) (by decide) at_198 pd_5 rfl rfl rfl f495 (vtn_1 l Z a0 hw n0 h491 f494 s_BEGIN s_VALUE H a t e v f kt ke kv kf nx tt t1 p0.toInt8.toInt32 e1 v0 v1 (lf - (1 : Int64)) f1 htt (own_nar _) P490) (Nat.le_of_ble_eq_true rfl) (Nat.le_of_ble_eq_true rfl) (Nat.le_of_ble_eq_true rfl) (Nat.le_of_ble_eq_true rfl) rfl rfl rfl (fun v497 h496 q498 => ?_)
      obtain ⟨rfl, eh496⟩ := q498
      subst h496
      show G w _ h491 6 50 201 #[.val (.int p0), .val (.int p1), .val (.int p2), .val (.int p3), .val (.int p4), .val (.int p5), .val (.int p0.toInt8.toInt32), .val (.int p1.toInt8.toInt32), .val (.int x8), .val (.int x9), .val (.int x10), .val (.int x11), .val (.int (1 : Int32)), .val (.int tt), .val (.ref a), .val (.int p0.toInt8.toInt32)] [(.int p0.toInt8.toInt32)]
      refine g_iload C (pc' := 203) at_201 rfl rfl ?_
      refine g_icN C (pc' := 206) at_203 rfl (says_f (cd := .ne) (fun q => q rfl)) rfl ?_
      refine g_iconst C (pc' := 207) (v := (1 : Int32)) at_206 (by decide) rfl ?_
      refine g_goto C (pc' := 211) at_207 (by decide) rfl ?_
      exact g_zreturn C at_211 rfl rfl (Nat.le_of_ble_eq_true rfl) (Nat.le_of_ble_eq_true rfl) (rfl)
    · rw [e4]
      have d1 : (lf - (1 : Int64)).toInt = lf.toInt - 1 := own_dec (m := 4) hl1 (by decide) hl2
      have d2 : ((lf - (1 : Int64)) - (1 : Int64)).toInt = lf.toInt - 2 := by rw [own_dec (m := 3) (by omega) (by decide) (by omega), d1]; omega
      have d3 : (((lf - (1 : Int64)) - (1 : Int64)) - (1 : Int64)).toInt = lf.toInt - 3 := by rw [own_dec (m := 2) (by omega) (by decide) (by omega), d2]; omega
      have hq0 : 0 ≤ ((lf - (1 : Int64)) - (1 : Int64)).toInt := by omega
      refine g_iload C (pc' := 139) at_137 rfl rfl ?_
      refine g_iconst C (pc' := 140) (v := (1 : Int32)) at_139 (by decide) rfl ?_
      refine g_icN C (pc' := 143) at_140 rfl (by decide) rfl ?_
      refine g_aload C (pc' := 145) at_143 rfl rfl rfl ?_
      refine g_virtual C (pc' := 148) (k' := 6) (n' := 50) (argsL := []) (rest := []) (wd hw 66 rfl) (wd hw 67 rfl) (nfSel (wd hw 69 rfl)) (wd hw 69 rfl) (wd hw 68 rfl) (wd hw 7 rfl) (wd hw 70 rfl) (by decide) at_145 pd_1 rfl rfl rfl E0 (take_1 l Z a0 hw n0 h' O' s_BEGIN s_VALUE H a t e v f kt ke kv kf nx tt t1 p0.toInt8.toInt32 e1 v0 v1 lf f1 (own_nz (by omega)) P) (Nat.le_of_ble_eq_true rfl) (Nat.le_of_ble_eq_true rfl) (Nat.le_of_ble_eq_true rfl) (Nat.le_of_ble_eq_true rfl) rfl rfl rfl (fun v502 h501 q503 => ?_)
      obtain ⟨rfl, K499, P500⟩ := q503
      have f504 := O'.keep K499 (allS ga (allS gt (allS ge (allS gv (allS gf all0)))))
      have f505 := E0.keep K499
      show G w _ h501 6 50 148 #[.val (.int p0), .val (.int p1), .val (.int p2), .val (.int p3), .val (.int p4), .val (.int p5), .val (.int p0.toInt8.toInt32), .val (.int p1.toInt8.toInt32), .val (.int x8), .val (.int x9), .val (.int x10), .val (.int x11), .val (.int (2 : Int32)), .val (.int tt), .val (.ref a), .unset] []
      refine g_iload C (pc' := 150) at_148 rfl rfl ?_
      refine g_iconst C (pc' := 151) (v := (2 : Int32)) at_150 (by decide) rfl ?_
      refine g_icN C (pc' := 154) at_151 rfl (by decide) rfl ?_
      refine g_aload C (pc' := 156) at_154 rfl rfl rfl ?_
      refine g_virtual C (pc' := 159) (k' := 6) (n' := 50) (argsL := []) (rest := []) (wd hw 66 rfl) (wd hw 67 rfl) (nfSel (wd hw 69 rfl)) (wd hw 69 rfl) (wd hw 68 rfl) (wd hw 7 rfl) (wd hw 70 rfl) (by decide) at_156 pd_1 rfl rfl rfl f505 (take_1 l Z a0 hw n0 h501 f504 s_BEGIN s_VALUE H a t e v f kt ke kv kf nx tt t1 p0.toInt8.toInt32 e1 v0 v1 (lf - (1 : Int64)) f1 (own_nz (by omega)) P500) (Nat.le_of_ble_eq_true rfl) (Nat.le_of_ble_eq_true rfl) (Nat.le_of_ble_eq_true rfl) (Nat.le_of_ble_eq_true rfl) rfl rfl rfl (fun v509 h508 q510 => ?_)
      obtain ⟨rfl, K506, P507⟩ := q510
      have f511 := f504.keep K506 (allS ga (allS gt (allS ge (allS gv (allS gf all0)))))
      have f512 := f505.keep K506
      show G w _ h508 6 50 159 #[.val (.int p0), .val (.int p1), .val (.int p2), .val (.int p3), .val (.int p4), .val (.int p5), .val (.int p0.toInt8.toInt32), .val (.int p1.toInt8.toInt32), .val (.int x8), .val (.int x9), .val (.int x10), .val (.int x11), .val (.int (2 : Int32)), .val (.int tt), .val (.ref a), .unset] []
      refine g_iload C (pc' := 161) at_159 rfl rfl ?_
      refine g_iconst C (pc' := 162) (v := (3 : Int32)) at_161 (by decide) rfl ?_
      refine g_icY C (pc' := 170) at_162 rfl (by decide) (by decide) rfl ?_
      refine g_iload C (pc' := 172) at_170 rfl rfl ?_
      refine g_bipush C (pc' := 174) (v := (13 : Int32)) at_172 (by decide) rfl ?_
      refine g_icY C (pc' := 192) at_174 rfl (says_t (cd := .ne) (htt)) (by decide) rfl ?_
      refine g_iload C (pc' := 194) at_192 rfl rfl ?_
      refine g_istore C (pc' := 196) (Ls' := #[.val (.int p0), .val (.int p1), .val (.int p2), .val (.int p3), .val (.int p4), .val (.int p5), .val (.int p0.toInt8.toInt32), .val (.int p1.toInt8.toInt32), .val (.int x8), .val (.int x9), .val (.int x10), .val (.int x11), .val (.int (2 : Int32)), .val (.int tt), .val (.ref a), .val (.int p0.toInt8.toInt32)]) at_194 rfl rfl rfl ?_
      refine g_aload C (pc' := 198) at_196 rfl rfl rfl ?_
      refine g_virtual C (pc' := 201) (k' := 6) (n' := 50) (argsL := []) (rest := []) (wd hw 56 rfl) (wd hw 57 rfl) (nfSel (wd hw 59 rfl)) (wd hw 59 rfl) (wd hw 58 rfl) (wd hw 7 rfl) (wd hw 60 rfl) (by decide) at_198 pd_5 rfl rfl rfl f512 (vtn_1 l Z a0 hw n0 h508 f511 s_BEGIN s_VALUE H a t e v f kt ke kv kf nx tt t1 p0.toInt8.toInt32 e1 v0 v1 ((lf - (1 : Int64)) - (1 : Int64)) f1 htt (own_nar _) P507) (Nat.le_of_ble_eq_true rfl) (Nat.le_of_ble_eq_true rfl) (Nat.le_of_ble_eq_true rfl) (Nat.le_of_ble_eq_true rfl) rfl rfl rfl (fun v514 h513 q515 => ?_)
      obtain ⟨rfl, eh513⟩ := q515
      subst h513
      show G w _ h508 6 50 201 #[.val (.int p0), .val (.int p1), .val (.int p2), .val (.int p3), .val (.int p4), .val (.int p5), .val (.int p0.toInt8.toInt32), .val (.int p1.toInt8.toInt32), .val (.int x8), .val (.int x9), .val (.int x10), .val (.int x11), .val (.int (2 : Int32)), .val (.int tt), .val (.ref a), .val (.int p0.toInt8.toInt32)] [(.int p0.toInt8.toInt32)]
      refine g_iload C (pc' := 203) at_201 rfl rfl ?_
      refine g_icN C (pc' := 206) at_203 rfl (says_f (cd := .ne) (fun q => q rfl)) rfl ?_
      refine g_iconst C (pc' := 207) (v := (1 : Int32)) at_206 (by decide) rfl ?_
      refine g_goto C (pc' := 211) at_207 (by decide) rfl ?_
      exact g_zreturn C at_211 rfl rfl (Nat.le_of_ble_eq_true rfl) (Nat.le_of_ble_eq_true rfl) (rfl)
    · rw [e4]
      have d1 : (lf - (1 : Int64)).toInt = lf.toInt - 1 := own_dec (m := 4) hl1 (by decide) hl2
      have d2 : ((lf - (1 : Int64)) - (1 : Int64)).toInt = lf.toInt - 2 := by rw [own_dec (m := 3) (by omega) (by decide) (by omega), d1]; omega
      have d3 : (((lf - (1 : Int64)) - (1 : Int64)) - (1 : Int64)).toInt = lf.toInt - 3 := by rw [own_dec (m := 2) (by omega) (by decide) (by omega), d2]; omega
      have hq0 : 0 ≤ (((lf - (1 : Int64)) - (1 : Int64)) - (1 : Int64)).toInt := by omega
      refine g_iload C (pc' := 139) at_137 rfl rfl ?_
      refine g_iconst C (pc' := 140) (v := (1 : Int32)) at_139 (by decide) rfl ?_
      refine g_icN C (pc' := 143) at_140 rfl (by decide) rfl ?_
      refine g_aload C (pc' := 145) at_143 rfl rfl rfl ?_
      refine g_virtual C (pc' := 148) (k' := 6) (n' := 50) (argsL := []) (rest := []) (wd hw 66 rfl) (wd hw 67 rfl) (nfSel (wd hw 69 rfl)) (wd hw 69 rfl) (wd hw 68 rfl) (wd hw 7 rfl) (wd hw 70 rfl) (by decide) at_145 pd_1 rfl rfl rfl E0 (take_1 l Z a0 hw n0 h' O' s_BEGIN s_VALUE H a t e v f kt ke kv kf nx tt t1 p0.toInt8.toInt32 e1 v0 v1 lf f1 (own_nz (by omega)) P) (Nat.le_of_ble_eq_true rfl) (Nat.le_of_ble_eq_true rfl) (Nat.le_of_ble_eq_true rfl) (Nat.le_of_ble_eq_true rfl) rfl rfl rfl (fun v519 h518 q520 => ?_)
      obtain ⟨rfl, K516, P517⟩ := q520
      have f521 := O'.keep K516 (allS ga (allS gt (allS ge (allS gv (allS gf all0)))))
      have f522 := E0.keep K516
      show G w _ h518 6 50 148 #[.val (.int p0), .val (.int p1), .val (.int p2), .val (.int p3), .val (.int p4), .val (.int p5), .val (.int p0.toInt8.toInt32), .val (.int p1.toInt8.toInt32), .val (.int x8), .val (.int x9), .val (.int x10), .val (.int x11), .val (.int (3 : Int32)), .val (.int tt), .val (.ref a), .unset] []
      refine g_iload C (pc' := 150) at_148 rfl rfl ?_
      refine g_iconst C (pc' := 151) (v := (2 : Int32)) at_150 (by decide) rfl ?_
      refine g_icN C (pc' := 154) at_151 rfl (by decide) rfl ?_
      refine g_aload C (pc' := 156) at_154 rfl rfl rfl ?_
      refine g_virtual C (pc' := 159) (k' := 6) (n' := 50) (argsL := []) (rest := []) (wd hw 66 rfl) (wd hw 67 rfl) (nfSel (wd hw 69 rfl)) (wd hw 69 rfl) (wd hw 68 rfl) (wd hw 7 rfl) (wd hw 70 rfl) (by decide) at_156 pd_1 rfl rfl rfl f522 (take_1 l Z a0 hw n0 h518 f521 s_BEGIN s_VALUE H a t e v f kt ke kv kf nx tt t1 p0.toInt8.toInt32 e1 v0 v1 (lf - (1 : Int64)) f1 (own_nz (by omega)) P517) (Nat.le_of_ble_eq_true rfl) (Nat.le_of_ble_eq_true rfl) (Nat.le_of_ble_eq_true rfl) (Nat.le_of_ble_eq_true rfl) rfl rfl rfl (fun v526 h525 q527 => ?_)
      obtain ⟨rfl, K523, P524⟩ := q527
      have f528 := f521.keep K523 (allS ga (allS gt (allS ge (allS gv (allS gf all0)))))
      have f529 := f522.keep K523
      show G w _ h525 6 50 159 #[.val (.int p0), .val (.int p1), .val (.int p2), .val (.int p3), .val (.int p4), .val (.int p5), .val (.int p0.toInt8.toInt32), .val (.int p1.toInt8.toInt32), .val (.int x8), .val (.int x9), .val (.int x10), .val (.int x11), .val (.int (3 : Int32)), .val (.int tt), .val (.ref a), .unset] []
      refine g_iload C (pc' := 161) at_159 rfl rfl ?_
      refine g_iconst C (pc' := 162) (v := (3 : Int32)) at_161 (by decide) rfl ?_
      refine g_icN C (pc' := 165) at_162 rfl (by decide) rfl ?_
      refine g_aload C (pc' := 167) at_165 rfl rfl rfl ?_
      refine g_virtual C (pc' := 170) (k' := 6) (n' := 50) (argsL := []) (rest := []) (wd hw 66 rfl) (wd hw 67 rfl) (nfSel (wd hw 69 rfl)) (wd hw 69 rfl) (wd hw 68 rfl) (wd hw 7 rfl) (wd hw 70 rfl) (by decide) at_167 pd_1 rfl rfl rfl f529 (take_1 l Z a0 hw n0 h525 f528 s_BEGIN s_VALUE H a t e v f kt ke kv kf nx tt t1 p0.toInt8.toInt32 e1 v0 v1 ((lf - (1 : Int64)) - (1 : Int64)) f1 (own_nz (by omega)) P524) (Nat.le_of_ble_eq_true rfl) (Nat.le_of_ble_eq_true rfl) (Nat.le_of_ble_eq_true rfl) (Nat.le_of_ble_eq_true rfl) rfl rfl rfl (fun v533 h532 q534 => ?_)
      obtain ⟨rfl, K530, P531⟩ := q534
      have f535 := f528.keep K530 (allS ga (allS gt (allS ge (allS gv (allS gf all0)))))
      have f536 := f529.keep K530
      show G w _ h532 6 50 170 #[.val (.int p0), .val (.int p1), .val (.int p2), .val (.int p3), .val (.int p4), .val (.int p5), .val (.int p0.toInt8.toInt32), .val (.int p1.toInt8.toInt32), .val (.int x8), .val (.int x9), .val (.int x10), .val (.int x11), .val (.int (3 : Int32)), .val (.int tt), .val (.ref a), .unset] []
      refine g_iload C (pc' := 172) at_170 rfl rfl ?_
      refine g_bipush C (pc' := 174) (v := (13 : Int32)) at_172 (by decide) rfl ?_
      refine g_icY C (pc' := 192) at_174 rfl (says_t (cd := .ne) (htt)) (by decide) rfl ?_
      refine g_iload C (pc' := 194) at_192 rfl rfl ?_
      refine g_istore C (pc' := 196) (Ls' := #[.val (.int p0), .val (.int p1), .val (.int p2), .val (.int p3), .val (.int p4), .val (.int p5), .val (.int p0.toInt8.toInt32), .val (.int p1.toInt8.toInt32), .val (.int x8), .val (.int x9), .val (.int x10), .val (.int x11), .val (.int (3 : Int32)), .val (.int tt), .val (.ref a), .val (.int p0.toInt8.toInt32)]) at_194 rfl rfl rfl ?_
      refine g_aload C (pc' := 198) at_196 rfl rfl rfl ?_
      refine g_virtual C (pc' := 201) (k' := 6) (n' := 50) (argsL := []) (rest := []) (wd hw 56 rfl) (wd hw 57 rfl) (nfSel (wd hw 59 rfl)) (wd hw 59 rfl) (wd hw 58 rfl) (wd hw 7 rfl) (wd hw 60 rfl) (by decide) at_198 pd_5 rfl rfl rfl f536 (vtn_1 l Z a0 hw n0 h532 f535 s_BEGIN s_VALUE H a t e v f kt ke kv kf nx tt t1 p0.toInt8.toInt32 e1 v0 v1 (((lf - (1 : Int64)) - (1 : Int64)) - (1 : Int64)) f1 htt (own_nar _) P531) (Nat.le_of_ble_eq_true rfl) (Nat.le_of_ble_eq_true rfl) (Nat.le_of_ble_eq_true rfl) (Nat.le_of_ble_eq_true rfl) rfl rfl rfl (fun v538 h537 q539 => ?_)
      obtain ⟨rfl, eh537⟩ := q539
      subst h537
      show G w _ h532 6 50 201 #[.val (.int p0), .val (.int p1), .val (.int p2), .val (.int p3), .val (.int p4), .val (.int p5), .val (.int p0.toInt8.toInt32), .val (.int p1.toInt8.toInt32), .val (.int x8), .val (.int x9), .val (.int x10), .val (.int x11), .val (.int (3 : Int32)), .val (.int tt), .val (.ref a), .val (.int p0.toInt8.toInt32)] [(.int p0.toInt8.toInt32)]
      refine g_iload C (pc' := 203) at_201 rfl rfl ?_
      refine g_icN C (pc' := 206) at_203 rfl (says_f (cd := .ne) (fun q => q rfl)) rfl ?_
      refine g_iconst C (pc' := 207) (v := (1 : Int32)) at_206 (by decide) rfl ?_
      refine g_goto C (pc' := 211) at_207 (by decide) rfl ?_
      exact g_zreturn C at_211 rfl rfl (Nat.le_of_ble_eq_true rfl) (Nat.le_of_ble_eq_true rfl) (rfl)
  have JE21 : ∀ (h' : Heap) (O' : Old Z n0 h') (x8 x9 x10 x11 : Int32) (a t e v f : Addr) (kt ke kv kf : ClassId) (nx t0 e0 v0 : Int32) (f0 : Int64) (lf : Int64) (hl1 : 4 ≤ lf.toInt) (hl2 : lf.toInt < 4294967296) (hl3 : lf.toInt % 2 = 0) (P : EO Z n0 h' a t e v f kt ke kv kf nx (2 : Int32) t0 (13 : Int32) e0 p0.toInt8.toInt32 v0 p1.toInt8.toInt32 f0 lf), G w LQ h' 6 50 137 #[.val (.int p0), .val (.int p1), .val (.int p2), .val (.int p3), .val (.int p4), .val (.int p5), .val (.int p0.toInt8.toInt32), .val (.int p1.toInt8.toInt32), .val (.int x8), .val (.int x9), .val (.int x10), .val (.int x11), .val (.int (p4 &&& (3 : Int32))), .val (.int (13 : Int32)), .val (.ref a), .unset] [] := by
    intro h' O' x8 x9 x10 x11 a t e v f kt ke kv kf nx t0 e0 v0 f0 lf hl1 hl2 hl3 P
    obtain ⟨ga, gt, ge, gv, gf, n_a_t, n_a_e, n_a_v, n_a_f, n_t_e, n_t_v, n_t_f, n_e_v, n_e_f, n_v_f, E0, -⟩ := id P
    rcases own_and3 p4 with e4 | e4 | e4 | e4
    · rw [e4]
      have d1 : (lf - (1 : Int64)).toInt = lf.toInt - 1 := own_dec (m := 4) hl1 (by decide) hl2
      have d2 : ((lf - (1 : Int64)) - (1 : Int64)).toInt = lf.toInt - 2 := by rw [own_dec (m := 3) (by omega) (by decide) (by omega), d1]; omega
      have d3 : (((lf - (1 : Int64)) - (1 : Int64)) - (1 : Int64)).toInt = lf.toInt - 3 := by rw [own_dec (m := 2) (by omega) (by decide) (by omega), d2]; omega
      have hq0 : 0 ≤ lf.toInt := by omega
      have hq1 : lf.toInt % 2 = 0 := by omega
      refine g_iload C (pc' := 139) at_137 rfl rfl ?_
      refine g_iconst C (pc' := 140) (v := (1 : Int32)) at_139 (by decide) rfl ?_
      refine g_icY C (pc' := 148) at_140 rfl (by decide) (by decide) rfl ?_
      refine g_iload C (pc' := 150) at_148 rfl rfl ?_
      refine g_iconst C (pc' := 151) (v := (2 : Int32)) at_150 (by decide) rfl ?_
      refine g_icY C (pc' := 159) at_151 rfl (by decide) (by decide) rfl ?_
      refine g_iload C (pc' := 161) at_159 rfl rfl ?_
      refine g_iconst C (pc' := 162) (v := (3 : Int32)) at_161 (by decide) rfl ?_
      refine g_icY C (pc' := 170) at_162 rfl (by decide) (by decide) rfl ?_
      refine g_iload C (pc' := 172) at_170 rfl rfl ?_
      refine g_bipush C (pc' := 174) (v := (13 : Int32)) at_172 (by decide) rfl ?_
      refine g_icN C (pc' := 177) at_174 rfl (by decide) rfl ?_
      refine g_iload C (pc' := 179) at_177 rfl rfl ?_
      refine g_iconst C (pc' := 180) (v := (1 : Int32)) at_179 (by decide) rfl ?_
      refine g_iand C (pc' := 181) at_180 rfl rfl ?_
      rw [show ((0 : Int32) &&& (1 : Int32)) = (0 : Int32) from by decide]
      refine g_iconst C (pc' := 182) (v := (1 : Int32)) at_181 (by decide) rfl ?_
      refine g_icY C (pc' := 192) at_182 rfl (by decide) (by decide) rfl ?_
      refine g_iload C (pc' := 194) at_192 rfl rfl ?_
      refine g_istore C (pc' := 196) (Ls' := #[.val (.int p0), .val (.int p1), .val (.int p2), .val (.int p3), .val (.int p4), .val (.int p5), .val (.int p0.toInt8.toInt32), .val (.int p1.toInt8.toInt32), .val (.int x8), .val (.int x9), .val (.int x10), .val (.int x11), .val (.int (0 : Int32)), .val (.int (13 : Int32)), .val (.ref a), .val (.int p0.toInt8.toInt32)]) at_194 rfl rfl rfl ?_
      refine g_aload C (pc' := 198) at_196 rfl rfl rfl ?_
      refine g_virtual C (pc' := 201) (k' := 6) (n' := 50) (argsL := []) (rest := []) (wd hw 56 rfl) (wd hw 57 rfl) (nfSel (wd hw 59 rfl)) (wd hw 59 rfl) (wd hw 58 rfl) (wd hw 7 rfl) (wd hw 60 rfl) (by decide) at_198 pd_5 rfl rfl rfl E0 (vt0_2 l Z a0 hw n0 h' O' s_BEGIN s_VALUE H a t e v f kt ke kv kf nx t0 e0 p0.toInt8.toInt32 v0 p1.toInt8.toInt32 f0 lf (own_even hq0 hq1) (own_nar _) P) (Nat.le_of_ble_eq_true rfl) (Nat.le_of_ble_eq_true rfl) (Nat.le_of_ble_eq_true rfl) (Nat.le_of_ble_eq_true rfl) rfl rfl rfl (fun v541 h540 q542 => ?_)
      obtain ⟨rfl, eh540⟩ := q542
      subst h540
      show G w _ h' 6 50 201 #[.val (.int p0), .val (.int p1), .val (.int p2), .val (.int p3), .val (.int p4), .val (.int p5), .val (.int p0.toInt8.toInt32), .val (.int p1.toInt8.toInt32), .val (.int x8), .val (.int x9), .val (.int x10), .val (.int x11), .val (.int (0 : Int32)), .val (.int (13 : Int32)), .val (.ref a), .val (.int p0.toInt8.toInt32)] [(.int p0.toInt8.toInt32)]
      refine g_iload C (pc' := 203) at_201 rfl rfl ?_
      refine g_icN C (pc' := 206) at_203 rfl (says_f (cd := .ne) (fun q => q rfl)) rfl ?_
      refine g_iconst C (pc' := 207) (v := (1 : Int32)) at_206 (by decide) rfl ?_
      refine g_goto C (pc' := 211) at_207 (by decide) rfl ?_
      exact g_zreturn C at_211 rfl rfl (Nat.le_of_ble_eq_true rfl) (Nat.le_of_ble_eq_true rfl) (rfl)
    · rw [e4]
      have d1 : (lf - (1 : Int64)).toInt = lf.toInt - 1 := own_dec (m := 4) hl1 (by decide) hl2
      have d2 : ((lf - (1 : Int64)) - (1 : Int64)).toInt = lf.toInt - 2 := by rw [own_dec (m := 3) (by omega) (by decide) (by omega), d1]; omega
      have d3 : (((lf - (1 : Int64)) - (1 : Int64)) - (1 : Int64)).toInt = lf.toInt - 3 := by rw [own_dec (m := 2) (by omega) (by decide) (by omega), d2]; omega
      have hq0 : 0 ≤ (lf - (1 : Int64)).toInt := by omega
      have hq1 : (lf - (1 : Int64)).toInt % 2 = 1 := by omega
      refine g_iload C (pc' := 139) at_137 rfl rfl ?_
      refine g_iconst C (pc' := 140) (v := (1 : Int32)) at_139 (by decide) rfl ?_
      refine g_icN C (pc' := 143) at_140 rfl (by decide) rfl ?_
      refine g_aload C (pc' := 145) at_143 rfl rfl rfl ?_
      refine g_virtual C (pc' := 148) (k' := 6) (n' := 50) (argsL := []) (rest := []) (wd hw 66 rfl) (wd hw 67 rfl) (nfSel (wd hw 69 rfl)) (wd hw 69 rfl) (wd hw 68 rfl) (wd hw 7 rfl) (wd hw 70 rfl) (by decide) at_145 pd_1 rfl rfl rfl E0 (take_2 l Z a0 hw n0 h' O' s_BEGIN s_VALUE H a t e v f kt ke kv kf nx t0 (13 : Int32) e0 p0.toInt8.toInt32 v0 p1.toInt8.toInt32 f0 lf (own_nz (by omega)) P) (Nat.le_of_ble_eq_true rfl) (Nat.le_of_ble_eq_true rfl) (Nat.le_of_ble_eq_true rfl) (Nat.le_of_ble_eq_true rfl) rfl rfl rfl (fun v546 h545 q547 => ?_)
      obtain ⟨rfl, K543, P544⟩ := q547
      have f548 := O'.keep K543 (allS ga (allS gt (allS ge (allS gv (allS gf all0)))))
      have f549 := E0.keep K543
      show G w _ h545 6 50 148 #[.val (.int p0), .val (.int p1), .val (.int p2), .val (.int p3), .val (.int p4), .val (.int p5), .val (.int p0.toInt8.toInt32), .val (.int p1.toInt8.toInt32), .val (.int x8), .val (.int x9), .val (.int x10), .val (.int x11), .val (.int (1 : Int32)), .val (.int (13 : Int32)), .val (.ref a), .unset] []
      refine g_iload C (pc' := 150) at_148 rfl rfl ?_
      refine g_iconst C (pc' := 151) (v := (2 : Int32)) at_150 (by decide) rfl ?_
      refine g_icY C (pc' := 159) at_151 rfl (by decide) (by decide) rfl ?_
      refine g_iload C (pc' := 161) at_159 rfl rfl ?_
      refine g_iconst C (pc' := 162) (v := (3 : Int32)) at_161 (by decide) rfl ?_
      refine g_icY C (pc' := 170) at_162 rfl (by decide) (by decide) rfl ?_
      refine g_iload C (pc' := 172) at_170 rfl rfl ?_
      refine g_bipush C (pc' := 174) (v := (13 : Int32)) at_172 (by decide) rfl ?_
      refine g_icN C (pc' := 177) at_174 rfl (by decide) rfl ?_
      refine g_iload C (pc' := 179) at_177 rfl rfl ?_
      refine g_iconst C (pc' := 180) (v := (1 : Int32)) at_179 (by decide) rfl ?_
      refine g_iand C (pc' := 181) at_180 rfl rfl ?_
      rw [show ((1 : Int32) &&& (1 : Int32)) = (1 : Int32) from by decide]
      refine g_iconst C (pc' := 182) (v := (1 : Int32)) at_181 (by decide) rfl ?_
      refine g_icN C (pc' := 185) at_182 rfl (by decide) rfl ?_
      refine g_iload C (pc' := 187) at_185 rfl rfl ?_
      refine g_istore C (pc' := 189) (Ls' := #[.val (.int p0), .val (.int p1), .val (.int p2), .val (.int p3), .val (.int p4), .val (.int p5), .val (.int p0.toInt8.toInt32), .val (.int p1.toInt8.toInt32), .val (.int x8), .val (.int x9), .val (.int x10), .val (.int x11), .val (.int (1 : Int32)), .val (.int (13 : Int32)), .val (.ref a), .val (.int p1.toInt8.toInt32)]) at_187 rfl rfl rfl ?_
      refine g_goto C (pc' := 196) at_189 (by decide) rfl ?_
      refine g_aload C (pc' := 198) at_196 rfl rfl rfl ?_
      refine g_virtual C (pc' := 201) (k' := 6) (n' := 50) (argsL := []) (rest := []) (wd hw 56 rfl) (wd hw 57 rfl) (nfSel (wd hw 59 rfl)) (wd hw 59 rfl) (wd hw 58 rfl) (wd hw 7 rfl) (wd hw 60 rfl) (by decide) at_198 pd_5 rfl rfl rfl f549 (vt1_2 l Z a0 hw n0 h545 f548 s_BEGIN s_VALUE H a t e v f kt ke kv kf nx t0 e0 p0.toInt8.toInt32 v0 p1.toInt8.toInt32 f0 (lf - (1 : Int64)) (own_odd hq0 hq1) (own_nar _) P544) (Nat.le_of_ble_eq_true rfl) (Nat.le_of_ble_eq_true rfl) (Nat.le_of_ble_eq_true rfl) (Nat.le_of_ble_eq_true rfl) rfl rfl rfl (fun v551 h550 q552 => ?_)
      obtain ⟨rfl, eh550⟩ := q552
      subst h550
      show G w _ h545 6 50 201 #[.val (.int p0), .val (.int p1), .val (.int p2), .val (.int p3), .val (.int p4), .val (.int p5), .val (.int p0.toInt8.toInt32), .val (.int p1.toInt8.toInt32), .val (.int x8), .val (.int x9), .val (.int x10), .val (.int x11), .val (.int (1 : Int32)), .val (.int (13 : Int32)), .val (.ref a), .val (.int p1.toInt8.toInt32)] [(.int p1.toInt8.toInt32)]
      refine g_iload C (pc' := 203) at_201 rfl rfl ?_
      refine g_icN C (pc' := 206) at_203 rfl (says_f (cd := .ne) (fun q => q rfl)) rfl ?_
      refine g_iconst C (pc' := 207) (v := (1 : Int32)) at_206 (by decide) rfl ?_
      refine g_goto C (pc' := 211) at_207 (by decide) rfl ?_
      exact g_zreturn C at_211 rfl rfl (Nat.le_of_ble_eq_true rfl) (Nat.le_of_ble_eq_true rfl) (rfl)
    · rw [e4]
      have d1 : (lf - (1 : Int64)).toInt = lf.toInt - 1 := own_dec (m := 4) hl1 (by decide) hl2
      have d2 : ((lf - (1 : Int64)) - (1 : Int64)).toInt = lf.toInt - 2 := by rw [own_dec (m := 3) (by omega) (by decide) (by omega), d1]; omega
      have d3 : (((lf - (1 : Int64)) - (1 : Int64)) - (1 : Int64)).toInt = lf.toInt - 3 := by rw [own_dec (m := 2) (by omega) (by decide) (by omega), d2]; omega
      have hq0 : 0 ≤ ((lf - (1 : Int64)) - (1 : Int64)).toInt := by omega
      have hq1 : ((lf - (1 : Int64)) - (1 : Int64)).toInt % 2 = 0 := by omega
      refine g_iload C (pc' := 139) at_137 rfl rfl ?_
      refine g_iconst C (pc' := 140) (v := (1 : Int32)) at_139 (by decide) rfl ?_
      refine g_icN C (pc' := 143) at_140 rfl (by decide) rfl ?_
      refine g_aload C (pc' := 145) at_143 rfl rfl rfl ?_
      refine g_virtual C (pc' := 148) (k' := 6) (n' := 50) (argsL := []) (rest := []) (wd hw 66 rfl) (wd hw 67 rfl) (nfSel (wd hw 69 rfl)) (wd hw 69 rfl) (wd hw 68 rfl) (wd hw 7 rfl) (wd hw 70 rfl) (by decide) at_145 pd_1 rfl rfl rfl E0 (take_2 l Z a0 hw n0 h' O' s_BEGIN s_VALUE H a t e v f kt ke kv kf nx t0 (13 : Int32) e0 p0.toInt8.toInt32 v0 p1.toInt8.toInt32 f0 lf (own_nz (by omega)) P) (Nat.le_of_ble_eq_true rfl) (Nat.le_of_ble_eq_true rfl) (Nat.le_of_ble_eq_true rfl) (Nat.le_of_ble_eq_true rfl) rfl rfl rfl (fun v556 h555 q557 => ?_)
      obtain ⟨rfl, K553, P554⟩ := q557
      have f558 := O'.keep K553 (allS ga (allS gt (allS ge (allS gv (allS gf all0)))))
      have f559 := E0.keep K553
      show G w _ h555 6 50 148 #[.val (.int p0), .val (.int p1), .val (.int p2), .val (.int p3), .val (.int p4), .val (.int p5), .val (.int p0.toInt8.toInt32), .val (.int p1.toInt8.toInt32), .val (.int x8), .val (.int x9), .val (.int x10), .val (.int x11), .val (.int (2 : Int32)), .val (.int (13 : Int32)), .val (.ref a), .unset] []
      refine g_iload C (pc' := 150) at_148 rfl rfl ?_
      refine g_iconst C (pc' := 151) (v := (2 : Int32)) at_150 (by decide) rfl ?_
      refine g_icN C (pc' := 154) at_151 rfl (by decide) rfl ?_
      refine g_aload C (pc' := 156) at_154 rfl rfl rfl ?_
      refine g_virtual C (pc' := 159) (k' := 6) (n' := 50) (argsL := []) (rest := []) (wd hw 66 rfl) (wd hw 67 rfl) (nfSel (wd hw 69 rfl)) (wd hw 69 rfl) (wd hw 68 rfl) (wd hw 7 rfl) (wd hw 70 rfl) (by decide) at_156 pd_1 rfl rfl rfl f559 (take_2 l Z a0 hw n0 h555 f558 s_BEGIN s_VALUE H a t e v f kt ke kv kf nx t0 (13 : Int32) e0 p0.toInt8.toInt32 v0 p1.toInt8.toInt32 f0 (lf - (1 : Int64)) (own_nz (by omega)) P554) (Nat.le_of_ble_eq_true rfl) (Nat.le_of_ble_eq_true rfl) (Nat.le_of_ble_eq_true rfl) (Nat.le_of_ble_eq_true rfl) rfl rfl rfl (fun v563 h562 q564 => ?_)
      obtain ⟨rfl, K560, P561⟩ := q564
      have f565 := f558.keep K560 (allS ga (allS gt (allS ge (allS gv (allS gf all0)))))
      have f566 := f559.keep K560
      show G w _ h562 6 50 159 #[.val (.int p0), .val (.int p1), .val (.int p2), .val (.int p3), .val (.int p4), .val (.int p5), .val (.int p0.toInt8.toInt32), .val (.int p1.toInt8.toInt32), .val (.int x8), .val (.int x9), .val (.int x10), .val (.int x11), .val (.int (2 : Int32)), .val (.int (13 : Int32)), .val (.ref a), .unset] []
      refine g_iload C (pc' := 161) at_159 rfl rfl ?_
      refine g_iconst C (pc' := 162) (v := (3 : Int32)) at_161 (by decide) rfl ?_
      refine g_icY C (pc' := 170) at_162 rfl (by decide) (by decide) rfl ?_
      refine g_iload C (pc' := 172) at_170 rfl rfl ?_
      refine g_bipush C (pc' := 174) (v := (13 : Int32)) at_172 (by decide) rfl ?_
      refine g_icN C (pc' := 177) at_174 rfl (by decide) rfl ?_
      refine g_iload C (pc' := 179) at_177 rfl rfl ?_
      refine g_iconst C (pc' := 180) (v := (1 : Int32)) at_179 (by decide) rfl ?_
      refine g_iand C (pc' := 181) at_180 rfl rfl ?_
      rw [show ((2 : Int32) &&& (1 : Int32)) = (0 : Int32) from by decide]
      refine g_iconst C (pc' := 182) (v := (1 : Int32)) at_181 (by decide) rfl ?_
      refine g_icY C (pc' := 192) at_182 rfl (by decide) (by decide) rfl ?_
      refine g_iload C (pc' := 194) at_192 rfl rfl ?_
      refine g_istore C (pc' := 196) (Ls' := #[.val (.int p0), .val (.int p1), .val (.int p2), .val (.int p3), .val (.int p4), .val (.int p5), .val (.int p0.toInt8.toInt32), .val (.int p1.toInt8.toInt32), .val (.int x8), .val (.int x9), .val (.int x10), .val (.int x11), .val (.int (2 : Int32)), .val (.int (13 : Int32)), .val (.ref a), .val (.int p0.toInt8.toInt32)]) at_194 rfl rfl rfl ?_
      refine g_aload C (pc' := 198) at_196 rfl rfl rfl ?_
      refine g_virtual C (pc' := 201) (k' := 6) (n' := 50) (argsL := []) (rest := []) (wd hw 56 rfl) (wd hw 57 rfl) (nfSel (wd hw 59 rfl)) (wd hw 59 rfl) (wd hw 58 rfl) (wd hw 7 rfl) (wd hw 60 rfl) (by decide) at_198 pd_5 rfl rfl rfl f566 (vt0_2 l Z a0 hw n0 h562 f565 s_BEGIN s_VALUE H a t e v f kt ke kv kf nx t0 e0 p0.toInt8.toInt32 v0 p1.toInt8.toInt32 f0 ((lf - (1 : Int64)) - (1 : Int64)) (own_even hq0 hq1) (own_nar _) P561) (Nat.le_of_ble_eq_true rfl) (Nat.le_of_ble_eq_true rfl) (Nat.le_of_ble_eq_true rfl) (Nat.le_of_ble_eq_true rfl) rfl rfl rfl (fun v568 h567 q569 => ?_)
      obtain ⟨rfl, eh567⟩ := q569
      subst h567
      show G w _ h562 6 50 201 #[.val (.int p0), .val (.int p1), .val (.int p2), .val (.int p3), .val (.int p4), .val (.int p5), .val (.int p0.toInt8.toInt32), .val (.int p1.toInt8.toInt32), .val (.int x8), .val (.int x9), .val (.int x10), .val (.int x11), .val (.int (2 : Int32)), .val (.int (13 : Int32)), .val (.ref a), .val (.int p0.toInt8.toInt32)] [(.int p0.toInt8.toInt32)]
      refine g_iload C (pc' := 203) at_201 rfl rfl ?_
      refine g_icN C (pc' := 206) at_203 rfl (says_f (cd := .ne) (fun q => q rfl)) rfl ?_
      refine g_iconst C (pc' := 207) (v := (1 : Int32)) at_206 (by decide) rfl ?_
      refine g_goto C (pc' := 211) at_207 (by decide) rfl ?_
      exact g_zreturn C at_211 rfl rfl (Nat.le_of_ble_eq_true rfl) (Nat.le_of_ble_eq_true rfl) (rfl)
    · rw [e4]
      have d1 : (lf - (1 : Int64)).toInt = lf.toInt - 1 := own_dec (m := 4) hl1 (by decide) hl2
      have d2 : ((lf - (1 : Int64)) - (1 : Int64)).toInt = lf.toInt - 2 := by rw [own_dec (m := 3) (by omega) (by decide) (by omega), d1]; omega
      have d3 : (((lf - (1 : Int64)) - (1 : Int64)) - (1 : Int64)).toInt = lf.toInt - 3 := by rw [own_dec (m := 2) (by omega) (by decide) (by omega), d2]; omega
      have hq0 : 0 ≤ (((lf - (1 : Int64)) - (1 : Int64)) - (1 : Int64)).toInt := by omega
      have hq1 : (((lf - (1 : Int64)) - (1 : Int64)) - (1 : Int64)).toInt % 2 = 1 := by omega
      refine g_iload C (pc' := 139) at_137 rfl rfl ?_
      refine g_iconst C (pc' := 140) (v := (1 : Int32)) at_139 (by decide) rfl ?_
      refine g_icN C (pc' := 143) at_140 rfl (by decide) rfl ?_
      refine g_aload C (pc' := 145) at_143 rfl rfl rfl ?_
      refine g_virtual C (pc' := 148) (k' := 6) (n' := 50) (argsL := []) (rest := []) (wd hw 66 rfl) (wd hw 67 rfl) (nfSel (wd hw 69 rfl)) (wd hw 69 rfl) (wd hw 68 rfl) (wd hw 7 rfl) (wd hw 70 rfl) (by decide) at_145 pd_1 rfl rfl rfl E0 (take_2 l Z a0 hw n0 h' O' s_BEGIN s_VALUE H a t e v f kt ke kv kf nx t0 (13 : Int32) e0 p0.toInt8.toInt32 v0 p1.toInt8.toInt32 f0 lf (own_nz (by omega)) P) (Nat.le_of_ble_eq_true rfl) (Nat.le_of_ble_eq_true rfl) (Nat.le_of_ble_eq_true rfl) (Nat.le_of_ble_eq_true rfl) rfl rfl rfl (fun v573 h572 q574 => ?_)
      obtain ⟨rfl, K570, P571⟩ := q574
      have f575 := O'.keep K570 (allS ga (allS gt (allS ge (allS gv (allS gf all0)))))
      have f576 := E0.keep K570
      show G w _ h572 6 50 148 #[.val (.int p0), .val (.int p1), .val (.int p2), .val (.int p3), .val (.int p4), .val (.int p5), .val (.int p0.toInt8.toInt32), .val (.int p1.toInt8.toInt32), .val (.int x8), .val (.int x9), .val (.int x10), .val (.int x11), .val (.int (3 : Int32)), .val (.int (13 : Int32)), .val (.ref a), .unset] []
      refine g_iload C (pc' := 150) at_148 rfl rfl ?_
      refine g_iconst C (pc' := 151) (v := (2 : Int32)) at_150 (by decide) rfl ?_
      refine g_icN C (pc' := 154) at_151 rfl (by decide) rfl ?_
      refine g_aload C (pc' := 156) at_154 rfl rfl rfl ?_
      refine g_virtual C (pc' := 159) (k' := 6) (n' := 50) (argsL := []) (rest := []) (wd hw 66 rfl) (wd hw 67 rfl) (nfSel (wd hw 69 rfl)) (wd hw 69 rfl) (wd hw 68 rfl) (wd hw 7 rfl) (wd hw 70 rfl) (by decide) at_156 pd_1 rfl rfl rfl f576 (take_2 l Z a0 hw n0 h572 f575 s_BEGIN s_VALUE H a t e v f kt ke kv kf nx t0 (13 : Int32) e0 p0.toInt8.toInt32 v0 p1.toInt8.toInt32 f0 (lf - (1 : Int64)) (own_nz (by omega)) P571) (Nat.le_of_ble_eq_true rfl) (Nat.le_of_ble_eq_true rfl) (Nat.le_of_ble_eq_true rfl) (Nat.le_of_ble_eq_true rfl) rfl rfl rfl (fun v580 h579 q581 => ?_)
      obtain ⟨rfl, K577, P578⟩ := q581
      have f582 := f575.keep K577 (allS ga (allS gt (allS ge (allS gv (allS gf all0)))))
      have f583 := f576.keep K577
      show G w _ h579 6 50 159 #[.val (.int p0), .val (.int p1), .val (.int p2), .val (.int p3), .val (.int p4), .val (.int p5), .val (.int p0.toInt8.toInt32), .val (.int p1.toInt8.toInt32), .val (.int x8), .val (.int x9), .val (.int x10), .val (.int x11), .val (.int (3 : Int32)), .val (.int (13 : Int32)), .val (.ref a), .unset] []
      refine g_iload C (pc' := 161) at_159 rfl rfl ?_
      refine g_iconst C (pc' := 162) (v := (3 : Int32)) at_161 (by decide) rfl ?_
      refine g_icN C (pc' := 165) at_162 rfl (by decide) rfl ?_
      refine g_aload C (pc' := 167) at_165 rfl rfl rfl ?_
      refine g_virtual C (pc' := 170) (k' := 6) (n' := 50) (argsL := []) (rest := []) (wd hw 66 rfl) (wd hw 67 rfl) (nfSel (wd hw 69 rfl)) (wd hw 69 rfl) (wd hw 68 rfl) (wd hw 7 rfl) (wd hw 70 rfl) (by decide) at_167 pd_1 rfl rfl rfl f583 (take_2 l Z a0 hw n0 h579 f582 s_BEGIN s_VALUE H a t e v f kt ke kv kf nx t0 (13 : Int32) e0 p0.toInt8.toInt32 v0 p1.toInt8.toInt32 f0 ((lf - (1 : Int64)) - (1 : Int64)) (own_nz (by omega)) P578) (Nat.le_of_ble_eq_true rfl) (Nat.le_of_ble_eq_true rfl) (Nat.le_of_ble_eq_true rfl) (Nat.le_of_ble_eq_true rfl) rfl rfl rfl (fun v587 h586 q588 => ?_)
      obtain ⟨rfl, K584, P585⟩ := q588
      have f589 := f582.keep K584 (allS ga (allS gt (allS ge (allS gv (allS gf all0)))))
      have f590 := f583.keep K584
      show G w _ h586 6 50 170 #[.val (.int p0), .val (.int p1), .val (.int p2), .val (.int p3), .val (.int p4), .val (.int p5), .val (.int p0.toInt8.toInt32), .val (.int p1.toInt8.toInt32), .val (.int x8), .val (.int x9), .val (.int x10), .val (.int x11), .val (.int (3 : Int32)), .val (.int (13 : Int32)), .val (.ref a), .unset] []
      refine g_iload C (pc' := 172) at_170 rfl rfl ?_
      refine g_bipush C (pc' := 174) (v := (13 : Int32)) at_172 (by decide) rfl ?_
      refine g_icN C (pc' := 177) at_174 rfl (by decide) rfl ?_
      refine g_iload C (pc' := 179) at_177 rfl rfl ?_
      refine g_iconst C (pc' := 180) (v := (1 : Int32)) at_179 (by decide) rfl ?_
      refine g_iand C (pc' := 181) at_180 rfl rfl ?_
      rw [show ((3 : Int32) &&& (1 : Int32)) = (1 : Int32) from by decide]
      refine g_iconst C (pc' := 182) (v := (1 : Int32)) at_181 (by decide) rfl ?_
      refine g_icN C (pc' := 185) at_182 rfl (by decide) rfl ?_
      refine g_iload C (pc' := 187) at_185 rfl rfl ?_
      refine g_istore C (pc' := 189) (Ls' := #[.val (.int p0), .val (.int p1), .val (.int p2), .val (.int p3), .val (.int p4), .val (.int p5), .val (.int p0.toInt8.toInt32), .val (.int p1.toInt8.toInt32), .val (.int x8), .val (.int x9), .val (.int x10), .val (.int x11), .val (.int (3 : Int32)), .val (.int (13 : Int32)), .val (.ref a), .val (.int p1.toInt8.toInt32)]) at_187 rfl rfl rfl ?_
      refine g_goto C (pc' := 196) at_189 (by decide) rfl ?_
      refine g_aload C (pc' := 198) at_196 rfl rfl rfl ?_
      refine g_virtual C (pc' := 201) (k' := 6) (n' := 50) (argsL := []) (rest := []) (wd hw 56 rfl) (wd hw 57 rfl) (nfSel (wd hw 59 rfl)) (wd hw 59 rfl) (wd hw 58 rfl) (wd hw 7 rfl) (wd hw 60 rfl) (by decide) at_198 pd_5 rfl rfl rfl f590 (vt1_2 l Z a0 hw n0 h586 f589 s_BEGIN s_VALUE H a t e v f kt ke kv kf nx t0 e0 p0.toInt8.toInt32 v0 p1.toInt8.toInt32 f0 (((lf - (1 : Int64)) - (1 : Int64)) - (1 : Int64)) (own_odd hq0 hq1) (own_nar _) P585) (Nat.le_of_ble_eq_true rfl) (Nat.le_of_ble_eq_true rfl) (Nat.le_of_ble_eq_true rfl) (Nat.le_of_ble_eq_true rfl) rfl rfl rfl (fun v592 h591 q593 => ?_)
      obtain ⟨rfl, eh591⟩ := q593
      subst h591
      show G w _ h586 6 50 201 #[.val (.int p0), .val (.int p1), .val (.int p2), .val (.int p3), .val (.int p4), .val (.int p5), .val (.int p0.toInt8.toInt32), .val (.int p1.toInt8.toInt32), .val (.int x8), .val (.int x9), .val (.int x10), .val (.int x11), .val (.int (3 : Int32)), .val (.int (13 : Int32)), .val (.ref a), .val (.int p1.toInt8.toInt32)] [(.int p1.toInt8.toInt32)]
      refine g_iload C (pc' := 203) at_201 rfl rfl ?_
      refine g_icN C (pc' := 206) at_203 rfl (says_f (cd := .ne) (fun q => q rfl)) rfl ?_
      refine g_iconst C (pc' := 207) (v := (1 : Int32)) at_206 (by decide) rfl ?_
      refine g_goto C (pc' := 211) at_207 (by decide) rfl ?_
      exact g_zreturn C at_211 rfl rfl (Nat.le_of_ble_eq_true rfl) (Nat.le_of_ble_eq_true rfl) (rfl)
  have JE20 : ∀ (h' : Heap) (O' : Old Z n0 h') (x8 x9 x10 x11 : Int32) (a t e v f : Addr) (kt ke kv kf : ClassId) (nx t0 e0 v0 v1 : Int32) (f0 : Int64) (tt : Int32) (htt : ¬ tt = 13) (lf : Int64) (hl1 : 4 ≤ lf.toInt) (hl2 : lf.toInt < 4294967296) (P : EO Z n0 h' a t e v f kt ke kv kf nx (2 : Int32) t0 tt e0 p0.toInt8.toInt32 v0 v1 f0 lf), G w LQ h' 6 50 137 #[.val (.int p0), .val (.int p1), .val (.int p2), .val (.int p3), .val (.int p4), .val (.int p5), .val (.int p0.toInt8.toInt32), .val (.int p1.toInt8.toInt32), .val (.int x8), .val (.int x9), .val (.int x10), .val (.int x11), .val (.int (p4 &&& (3 : Int32))), .val (.int tt), .val (.ref a), .unset] [] := by
    intro h' O' x8 x9 x10 x11 a t e v f kt ke kv kf nx t0 e0 v0 v1 f0 tt htt lf hl1 hl2 P
    obtain ⟨ga, gt, ge, gv, gf, n_a_t, n_a_e, n_a_v, n_a_f, n_t_e, n_t_v, n_t_f, n_e_v, n_e_f, n_v_f, E0, -⟩ := id P
    rcases own_and3 p4 with e4 | e4 | e4 | e4
    · rw [e4]
      have d1 : (lf - (1 : Int64)).toInt = lf.toInt - 1 := own_dec (m := 4) hl1 (by decide) hl2
      have d2 : ((lf - (1 : Int64)) - (1 : Int64)).toInt = lf.toInt - 2 := by rw [own_dec (m := 3) (by omega) (by decide) (by omega), d1]; omega
      have d3 : (((lf - (1 : Int64)) - (1 : Int64)) - (1 : Int64)).toInt = lf.toInt - 3 := by rw [own_dec (m := 2) (by omega) (by decide) (by omega), d2]; omega
      have hq0 : 0 ≤ lf.toInt := by omega
      refine g_iload C (pc' := 139) at_137 rfl rfl ?_
      refine g_iconst C (pc' := 140) (v := (1 : Int32)) at_139 (by decide) rfl ?_
      refine g_icY C (pc' := 148) at_140 rfl (by decide) (by decide) rfl ?_
      refine g_iload C (pc' := 150) at_148 rfl rfl ?_
      refine g_iconst C (pc' := 151) (v := (2 : Int32)) at_150 (by decide) rfl ?_
      refine g_icY C (pc' := 159) at_151 rfl (by decide) (by decide) rfl ?_
      refine g_iload C (pc' := 161) at_159 rfl rfl ?_
      refine g_iconst C (pc' := 162) (v := (3 : Int32)) at_161 (by decide) rfl ?_
      refine g_icY C (pc' := 170) at_162 rfl (by decide) (by decide) rfl ?_
      refine g_iload C (pc' := 172) at_170 rfl rfl ?_
      refine g_bipush C (pc' := 174) (v := (13 : Int32)) at_172 (by decide) rfl ?_
      refine g_icY C (pc' := 192) at_174 rfl (says_t (cd := .ne) (htt)) (by decide) rfl ?_
      refine g_iload C (pc' := 194) at_192 rfl rfl ?_
      refine g_istore C (pc' := 196) (Ls' := #[.val (.int p0), .val (.int p1), .val (.int p2), .val (.int p3), .val (.int p4), .val (.int p5), .val (.int p0.toInt8.toInt32), .val (.int p1.toInt8.toInt32), .val (.int x8), .val (.int x9), .val (.int x10), .val (.int x11), .val (.int (0 : Int32)), .val (.int tt), .val (.ref a), .val (.int p0.toInt8.toInt32)]) at_194 rfl rfl rfl ?_
      refine g_aload C (pc' := 198) at_196 rfl rfl rfl ?_
      refine g_virtual C (pc' := 201) (k' := 6) (n' := 50) (argsL := []) (rest := []) (wd hw 56 rfl) (wd hw 57 rfl) (nfSel (wd hw 59 rfl)) (wd hw 59 rfl) (wd hw 58 rfl) (wd hw 7 rfl) (wd hw 60 rfl) (by decide) at_198 pd_5 rfl rfl rfl E0 (vtn_2 l Z a0 hw n0 h' O' s_BEGIN s_VALUE H a t e v f kt ke kv kf nx t0 tt e0 p0.toInt8.toInt32 v0 v1 f0 lf htt (own_nar _) P) (Nat.le_of_ble_eq_true rfl) (Nat.le_of_ble_eq_true rfl) (Nat.le_of_ble_eq_true rfl) (Nat.le_of_ble_eq_true rfl) rfl rfl rfl (fun v595 h594 q596 => ?_)
      obtain ⟨rfl, eh594⟩ := q596
      subst h594
      show G w _ h' 6 50 201 #[.val (.int p0), .val (.int p1), .val (.int p2), .val (.int p3), .val (.int p4), .val (.int p5), .val (.int p0.toInt8.toInt32), .val (.int p1.toInt8.toInt32), .val (.int x8), .val (.int x9), .val (.int x10), .val (.int x11), .val (.int (0 : Int32)), .val (.int tt), .val (.ref a), .val (.int p0.toInt8.toInt32)] [(.int p0.toInt8.toInt32)]
      refine g_iload C (pc' := 203) at_201 rfl rfl ?_
      refine g_icN C (pc' := 206) at_203 rfl (says_f (cd := .ne) (fun q => q rfl)) rfl ?_
      refine g_iconst C (pc' := 207) (v := (1 : Int32)) at_206 (by decide) rfl ?_
      refine g_goto C (pc' := 211) at_207 (by decide) rfl ?_
      exact g_zreturn C at_211 rfl rfl (Nat.le_of_ble_eq_true rfl) (Nat.le_of_ble_eq_true rfl) (rfl)
    · rw [e4]
      have d1 : (lf - (1 : Int64)).toInt = lf.toInt - 1 := own_dec (m := 4) hl1 (by decide) hl2
      have d2 : ((lf - (1 : Int64)) - (1 : Int64)).toInt = lf.toInt - 2 := by rw [own_dec (m := 3) (by omega) (by decide) (by omega), d1]; omega
      have d3 : (((lf - (1 : Int64)) - (1 : Int64)) - (1 : Int64)).toInt = lf.toInt - 3 := by rw [own_dec (m := 2) (by omega) (by decide) (by omega), d2]; omega
      have hq0 : 0 ≤ (lf - (1 : Int64)).toInt := by omega
      refine g_iload C (pc' := 139) at_137 rfl rfl ?_
      refine g_iconst C (pc' := 140) (v := (1 : Int32)) at_139 (by decide) rfl ?_
      refine g_icN C (pc' := 143) at_140 rfl (by decide) rfl ?_
      refine g_aload C (pc' := 145) at_143 rfl rfl rfl ?_
      refine g_virtual C (pc' := 148) (k' := 6) (n' := 50) (argsL := []) (rest := []) (wd hw 66 rfl) (wd hw 67 rfl) (nfSel (wd hw 69 rfl)) (wd hw 69 rfl) (wd hw 68 rfl) (wd hw 7 rfl) (wd hw 70 rfl) (by decide) at_145 pd_1 rfl rfl rfl E0 (take_2 l Z a0 hw n0 h' O' s_BEGIN s_VALUE H a t e v f kt ke kv kf nx t0 tt e0 p0.toInt8.toInt32 v0 v1 f0 lf (own_nz (by omega)) P) (Nat.le_of_ble_eq_true rfl) (Nat.le_of_ble_eq_true rfl) (Nat.le_of_ble_eq_true rfl) (Nat.le_of_ble_eq_true rfl) rfl rfl rfl (fun v600 h599 q601 => ?_)
      obtain ⟨rfl, K597, P598⟩ := q601
      have f602 := O'.keep K597 (allS ga (allS gt (allS ge (allS gv (allS gf all0)))))
      have f603 := E0.keep K597
      show G w _ h599 6 50 148 #[.val (.int p0), .val (.int p1), .val (.int p2), .val (.int p3), .val (.int p4), .val (.int p5), .val (.int p0.toInt8.toInt32), .val (.int p1.toInt8.toInt32), .val (.int x8), .val (.int x9), .val (.int x10), .val (.int x11), .val (.int (1 : Int32)), .val (.int tt), .val (.ref a), .unset] []
      refine g_iload C (pc' := 150) at_148 rfl rfl ?_
      refine g_iconst C (pc' := 151) (v := (2 : Int32)) at_150 (by decide) rfl ?_
      refine g_icY C (pc' := 159) at_151 rfl (by decide) (by decide) rfl ?_
      refine g_iload C (pc' := 161) at_159 rfl rfl ?_
      refine g_iconst C (pc' := 162) (v := (3 : Int32)) at_161 (by decide) rfl ?_
      refine g_icY C (pc' := 170) at_162 rfl (by decide) (by decide) rfl ?_
      refine g_iload C (pc' := 172) at_170 rfl rfl ?_
      refine g_bipush C (pc' := 174) (v := (13 : Int32)) at_172 (by decide) rfl ?_
      refine g_icY C (pc' := 192) at_174 rfl (says_t (cd := .ne) (htt)) (by decide) rfl ?_
      refine g_iload C (pc' := 194) at_192 rfl rfl ?_
      refine g_istore C (pc' := 196) (Ls' := #[.val (.int p0), .val (.int p1), .val (.int p2), .val (.int p3), .val (.int p4), .val (.int p5), .val (.int p0.toInt8.toInt32), .val (.int p1.toInt8.toInt32), .val (.int x8), .val (.int x9), .val (.int x10), .val (.int x11), .val (.int (1 : Int32)), .val (.int tt), .val (.ref a), .val (.int p0.toInt8.toInt32)]) at_194 rfl rfl rfl ?_
      refine g_aload C (pc' := 198) at_196 rfl rfl rfl ?_
      refine g_virtual C (pc' := 201) (k' := 6) (n' := 50) (argsL := []) (rest := []) (wd hw 56 rfl) (wd hw 57 rfl) (nfSel (wd hw 59 rfl)) (wd hw 59 rfl) (wd hw 58 rfl) (wd hw 7 rfl) (wd hw 60 rfl) (by decide) at_198 pd_5 rfl rfl rfl f603 (vtn_2 l Z a0 hw n0 h599 f602 s_BEGIN s_VALUE H a t e v f kt ke kv kf nx t0 tt e0 p0.toInt8.toInt32 v0 v1 f0 (lf - (1 : Int64)) htt (own_nar _) P598) (Nat.le_of_ble_eq_true rfl) (Nat.le_of_ble_eq_true rfl) (Nat.le_of_ble_eq_true rfl) (Nat.le_of_ble_eq_true rfl) rfl rfl rfl (fun v605 h604 q606 => ?_)
      obtain ⟨rfl, eh604⟩ := q606
      subst h604
      show G w _ h599 6 50 201 #[.val (.int p0), .val (.int p1), .val (.int p2), .val (.int p3), .val (.int p4), .val (.int p5), .val (.int p0.toInt8.toInt32), .val (.int p1.toInt8.toInt32), .val (.int x8), .val (.int x9), .val (.int x10), .val (.int x11), .val (.int (1 : Int32)), .val (.int tt), .val (.ref a), .val (.int p0.toInt8.toInt32)] [(.int p0.toInt8.toInt32)]
      refine g_iload C (pc' := 203) at_201 rfl rfl ?_
      refine g_icN C (pc' := 206) at_203 rfl (says_f (cd := .ne) (fun q => q rfl)) rfl ?_
      refine g_iconst C (pc' := 207) (v := (1 : Int32)) at_206 (by decide) rfl ?_
      refine g_goto C (pc' := 211) at_207 (by decide) rfl ?_
      exact g_zreturn C at_211 rfl rfl (Nat.le_of_ble_eq_true rfl) (Nat.le_of_ble_eq_true rfl) (rfl)
    · rw [e4]
      have d1 : (lf - (1 : Int64)).toInt = lf.toInt - 1 := own_dec (m := 4) hl1 (by decide) hl2
      have d2 : ((lf - (1 : Int64)) - (1 : Int64)).toInt = lf.toInt - 2 := by rw [own_dec (m := 3) (by omega) (by decide) (by omega), d1]; omega
      have d3 : (((lf - (1 : Int64)) - (1 : Int64)) - (1 : Int64)).toInt = lf.toInt - 3 := by rw [own_dec (m := 2) (by omega) (by decide) (by omega), d2]; omega
      have hq0 : 0 ≤ ((lf - (1 : Int64)) - (1 : Int64)).toInt := by omega
      refine g_iload C (pc' := 139) at_137 rfl rfl ?_
      refine g_iconst C (pc' := 140) (v := (1 : Int32)) at_139 (by decide) rfl ?_
      refine g_icN C (pc' := 143) at_140 rfl (by decide) rfl ?_
      refine g_aload C (pc' := 145) at_143 rfl rfl rfl ?_
      refine g_virtual C (pc' := 148) (k' := 6) (n' := 50) (argsL := []) (rest := []) (wd hw 66 rfl) (wd hw 67 rfl) (nfSel (wd hw 69 rfl)) (wd hw 69 rfl) (wd hw 68 rfl) (wd hw 7 rfl) (wd hw 70 rfl) (by decide) at_145 pd_1 rfl rfl rfl E0 (take_2 l Z a0 hw n0 h' O' s_BEGIN s_VALUE H a t e v f kt ke kv kf nx t0 tt e0 p0.toInt8.toInt32 v0 v1 f0 lf (own_nz (by omega)) P) (Nat.le_of_ble_eq_true rfl) (Nat.le_of_ble_eq_true rfl) (Nat.le_of_ble_eq_true rfl) (Nat.le_of_ble_eq_true rfl) rfl rfl rfl (fun v610 h609 q611 => ?_)
      obtain ⟨rfl, K607, P608⟩ := q611
      have f612 := O'.keep K607 (allS ga (allS gt (allS ge (allS gv (allS gf all0)))))
      have f613 := E0.keep K607
      show G w _ h609 6 50 148 #[.val (.int p0), .val (.int p1), .val (.int p2), .val (.int p3), .val (.int p4), .val (.int p5), .val (.int p0.toInt8.toInt32), .val (.int p1.toInt8.toInt32), .val (.int x8), .val (.int x9), .val (.int x10), .val (.int x11), .val (.int (2 : Int32)), .val (.int tt), .val (.ref a), .unset] []
      refine g_iload C (pc' := 150) at_148 rfl rfl ?_
      refine g_iconst C (pc' := 151) (v := (2 : Int32)) at_150 (by decide) rfl ?_
      refine g_icN C (pc' := 154) at_151 rfl (by decide) rfl ?_
      refine g_aload C (pc' := 156) at_154 rfl rfl rfl ?_
      refine g_virtual C (pc' := 159) (k' := 6) (n' := 50) (argsL := []) (rest := []) (wd hw 66 rfl) (wd hw 67 rfl) (nfSel (wd hw 69 rfl)) (wd hw 69 rfl) (wd hw 68 rfl) (wd hw 7 rfl) (wd hw 70 rfl) (by decide) at_156 pd_1 rfl rfl rfl f613 (take_2 l Z a0 hw n0 h609 f612 s_BEGIN s_VALUE H a t e v f kt ke kv kf nx t0 tt e0 p0.toInt8.toInt32 v0 v1 f0 (lf - (1 : Int64)) (own_nz (by omega)) P608) (Nat.le_of_ble_eq_true rfl) (Nat.le_of_ble_eq_true rfl) (Nat.le_of_ble_eq_true rfl) (Nat.le_of_ble_eq_true rfl) rfl rfl rfl (fun v617 h616 q618 => ?_)
      obtain ⟨rfl, K614, P615⟩ := q618
      have f619 := f612.keep K614 (allS ga (allS gt (allS ge (allS gv (allS gf all0)))))
      have f620 := f613.keep K614
      show G w _ h616 6 50 159 #[.val (.int p0), .val (.int p1), .val (.int p2), .val (.int p3), .val (.int p4), .val (.int p5), .val (.int p0.toInt8.toInt32), .val (.int p1.toInt8.toInt32), .val (.int x8), .val (.int x9), .val (.int x10), .val (.int x11), .val (.int (2 : Int32)), .val (.int tt), .val (.ref a), .unset] []
      refine g_iload C (pc' := 161) at_159 rfl rfl ?_
      refine g_iconst C (pc' := 162) (v := (3 : Int32)) at_161 (by decide) rfl ?_
      refine g_icY C (pc' := 170) at_162 rfl (by decide) (by decide) rfl ?_
      refine g_iload C (pc' := 172) at_170 rfl rfl ?_
      refine g_bipush C (pc' := 174) (v := (13 : Int32)) at_172 (by decide) rfl ?_
      refine g_icY C (pc' := 192) at_174 rfl (says_t (cd := .ne) (htt)) (by decide) rfl ?_
      refine g_iload C (pc' := 194) at_192 rfl rfl ?_
      refine g_istore C (pc' := 196) (Ls' := #[.val (.int p0), .val (.int p1), .val (.int p2), .val (.int p3), .val (.int p4), .val (.int p5), .val (.int p0.toInt8.toInt32), .val (.int p1.toInt8.toInt32), .val (.int x8), .val (.int x9), .val (.int x10), .val (.int x11), .val (.int (2 : Int32)), .val (.int tt), .val (.ref a), .val (.int p0.toInt8.toInt32)]) at_194 rfl rfl rfl ?_
      refine g_aload C (pc' := 198) at_196 rfl rfl rfl ?_
      refine g_virtual C (pc' := 201) (k' := 6) (n' := 50) (argsL := []) (rest := []) (wd hw 56 rfl) (wd hw 57 rfl) (nfSel (wd hw 59 rfl)) (wd hw 59 rfl) (wd hw 58 rfl) (wd hw 7 rfl) (wd hw 60 rfl) (by decide) at_198 pd_5 rfl rfl rfl f620 (vtn_2 l Z a0 hw n0 h616 f619 s_BEGIN s_VALUE H a t e v f kt ke kv kf nx t0 tt e0 p0.toInt8.toInt32 v0 v1 f0 ((lf - (1 : Int64)) - (1 : Int64)) htt (own_nar _) P615) (Nat.le_of_ble_eq_true rfl) (Nat.le_of_ble_eq_true rfl) (Nat.le_of_ble_eq_true rfl) (Nat.le_of_ble_eq_true rfl) rfl rfl rfl (fun v622 h621 q623 => ?_)
      obtain ⟨rfl, eh621⟩ := q623
      subst h621
      show G w _ h616 6 50 201 #[.val (.int p0), .val (.int p1), .val (.int p2), .val (.int p3), .val (.int p4), .val (.int p5), .val (.int p0.toInt8.toInt32), .val (.int p1.toInt8.toInt32), .val (.int x8), .val (.int x9), .val (.int x10), .val (.int x11), .val (.int (2 : Int32)), .val (.int tt), .val (.ref a), .val (.int p0.toInt8.toInt32)] [(.int p0.toInt8.toInt32)]
      refine g_iload C (pc' := 203) at_201 rfl rfl ?_
      refine g_icN C (pc' := 206) at_203 rfl (says_f (cd := .ne) (fun q => q rfl)) rfl ?_
      refine g_iconst C (pc' := 207) (v := (1 : Int32)) at_206 (by decide) rfl ?_
      refine g_goto C (pc' := 211) at_207 (by decide) rfl ?_
      exact g_zreturn C at_211 rfl rfl (Nat.le_of_ble_eq_true rfl) (Nat.le_of_ble_eq_true rfl) (rfl)
    · rw [e4]
      have d1 : (lf - (1 : Int64)).toInt = lf.toInt - 1 := own_dec (m := 4) hl1 (by decide) hl2
      have d2 : ((lf - (1 : Int64)) - (1 : Int64)).toInt = lf.toInt - 2 := by rw [own_dec (m := 3) (by omega) (by decide) (by omega), d1]; omega
      have d3 : (((lf - (1 : Int64)) - (1 : Int64)) - (1 : Int64)).toInt = lf.toInt - 3 := by rw [own_dec (m := 2) (by omega) (by decide) (by omega), d2]; omega
      have hq0 : 0 ≤ (((lf - (1 : Int64)) - (1 : Int64)) - (1 : Int64)).toInt := by omega
      refine g_iload C (pc' := 139) at_137 rfl rfl ?_
      refine g_iconst C (pc' := 140) (v := (1 : Int32)) at_139 (by decide) rfl ?_
      refine g_icN C (pc' := 143) at_140 rfl (by decide) rfl ?_
      refine g_aload C (pc' := 145) at_143 rfl rfl rfl ?_
      refine g_virtual C (pc' := 148) (k' := 6) (n' := 50) (argsL := []) (rest := []) (wd hw 66 rfl) (wd hw 67 rfl) (nfSel (wd hw 69 rfl)) (wd hw 69 rfl) (wd hw 68 rfl) (wd hw 7 rfl) (wd hw 70 rfl) (by decide) at_145 pd_1 rfl rfl rfl E0 (take_2 l Z a0 hw n0 h' O' s_BEGIN s_VALUE H a t e v f kt ke kv kf nx t0 tt e0 p0.toInt8.toInt32 v0 v1 f0 lf (own_nz (by omega)) P) (Nat.le_of_ble_eq_true rfl) (Nat.le_of_ble_eq_true rfl) (Nat.le_of_ble_eq_true rfl) (Nat.le_of_ble_eq_true rfl) rfl rfl rfl (fun v627 h626 q628 => ?_)
      obtain ⟨rfl, K624, P625⟩ := q628
      have f629 := O'.keep K624 (allS ga (allS gt (allS ge (allS gv (allS gf all0)))))
      have f630 := E0.keep K624
      show G w _ h626 6 50 148 #[.val (.int p0), .val (.int p1), .val (.int p2), .val (.int p3), .val (.int p4), .val (.int p5), .val (.int p0.toInt8.toInt32), .val (.int p1.toInt8.toInt32), .val (.int x8), .val (.int x9), .val (.int x10), .val (.int x11), .val (.int (3 : Int32)), .val (.int tt), .val (.ref a), .unset] []
      refine g_iload C (pc' := 150) at_148 rfl rfl ?_
      refine g_iconst C (pc' := 151) (v := (2 : Int32)) at_150 (by decide) rfl ?_
      refine g_icN C (pc' := 154) at_151 rfl (by decide) rfl ?_
      refine g_aload C (pc' := 156) at_154 rfl rfl rfl ?_
      refine g_virtual C (pc' := 159) (k' := 6) (n' := 50) (argsL := []) (rest := []) (wd hw 66 rfl) (wd hw 67 rfl) (nfSel (wd hw 69 rfl)) (wd hw 69 rfl) (wd hw 68 rfl) (wd hw 7 rfl) (wd hw 70 rfl) (by decide) at_156 pd_1 rfl rfl rfl f630 (take_2 l Z a0 hw n0 h626 f629 s_BEGIN s_VALUE H a t e v f kt ke kv kf nx t0 tt e0 p0.toInt8.toInt32 v0 v1 f0 (lf - (1 : Int64)) (own_nz (by omega)) P625) (Nat.le_of_ble_eq_true rfl) (Nat.le_of_ble_eq_true rfl) (Nat.le_of_ble_eq_true rfl) (Nat.le_of_ble_eq_true rfl) rfl rfl rfl (fun v634 h633 q635 => ?_)
      obtain ⟨rfl, K631, P632⟩ := q635
      have f636 := f629.keep K631 (allS ga (allS gt (allS ge (allS gv (allS gf all0)))))
      have f637 := f630.keep K631
      show G w _ h633 6 50 159 #[.val (.int p0), .val (.int p1), .val (.int p2), .val (.int p3), .val (.int p4), .val (.int p5), .val (.int p0.toInt8.toInt32), .val (.int p1.toInt8.toInt32), .val (.int x8), .val (.int x9), .val (.int x10), .val (.int x11), .val (.int (3 : Int32)), .val (.int tt), .val (.ref a), .unset] []
      refine g_iload C (pc' := 161) at_159 rfl rfl ?_
      refine g_iconst C (pc' := 162) (v := (3 : Int32)) at_161 (by decide) rfl ?_
      refine g_icN C (pc' := 165) at_162 rfl (by decide) rfl ?_
      refine g_aload C (pc' := 167) at_165 rfl rfl rfl ?_
      refine g_virtual C (pc' := 170) (k' := 6) (n' := 50) (argsL := []) (rest := []) (wd hw 66 rfl) (wd hw 67 rfl) (nfSel (wd hw 69 rfl)) (wd hw 69 rfl) (wd hw 68 rfl) (wd hw 7 rfl) (wd hw 70 rfl) (by decide) at_167 pd_1 rfl rfl rfl f637 (take_2 l Z a0 hw n0 h633 f636 s_BEGIN s_VALUE H a t e v f kt ke kv kf nx t0 tt e0 p0.toInt8.toInt32 v0 v1 f0 ((lf - (1 : Int64)) - (1 : Int64)) (own_nz (by omega)) P632) (Nat.le_of_ble_eq_true rfl) (Nat.le_of_ble_eq_true rfl) (Nat.le_of_ble_eq_true rfl) (Nat.le_of_ble_eq_true rfl) rfl rfl rfl (fun v641 h640 q642 => ?_)
      obtain ⟨rfl, K638, P639⟩ := q642
      have f643 := f636.keep K638 (allS ga (allS gt (allS ge (allS gv (allS gf all0)))))
      have f644 := f637.keep K638
      show G w _ h640 6 50 170 #[.val (.int p0), .val (.int p1), .val (.int p2), .val (.int p3), .val (.int p4), .val (.int p5), .val (.int p0.toInt8.toInt32), .val (.int p1.toInt8.toInt32), .val (.int x8), .val (.int x9), .val (.int x10), .val (.int x11), .val (.int (3 : Int32)), .val (.int tt), .val (.ref a), .unset] []
      refine g_iload C (pc' := 172) at_170 rfl rfl ?_
      refine g_bipush C (pc' := 174) (v := (13 : Int32)) at_172 (by decide) rfl ?_
      refine g_icY C (pc' := 192) at_174 rfl (says_t (cd := .ne) (htt)) (by decide) rfl ?_
      refine g_iload C (pc' := 194) at_192 rfl rfl ?_
      refine g_istore C (pc' := 196) (Ls' := #[.val (.int p0), .val (.int p1), .val (.int p2), .val (.int p3), .val (.int p4), .val (.int p5), .val (.int p0.toInt8.toInt32), .val (.int p1.toInt8.toInt32), .val (.int x8), .val (.int x9), .val (.int x10), .val (.int x11), .val (.int (3 : Int32)), .val (.int tt), .val (.ref a), .val (.int p0.toInt8.toInt32)]) at_194 rfl rfl rfl ?_
      refine g_aload C (pc' := 198) at_196 rfl rfl rfl ?_
      refine g_virtual C (pc' := 201) (k' := 6) (n' := 50) (argsL := []) (rest := []) (wd hw 56 rfl) (wd hw 57 rfl) (nfSel (wd hw 59 rfl)) (wd hw 59 rfl) (wd hw 58 rfl) (wd hw 7 rfl) (wd hw 60 rfl) (by decide) at_198 pd_5 rfl rfl rfl f644 (vtn_2 l Z a0 hw n0 h640 f643 s_BEGIN s_VALUE H a t e v f kt ke kv kf nx t0 tt e0 p0.toInt8.toInt32 v0 v1 f0 (((lf - (1 : Int64)) - (1 : Int64)) - (1 : Int64)) htt (own_nar _) P639) (Nat.le_of_ble_eq_true rfl) (Nat.le_of_ble_eq_true rfl) (Nat.le_of_ble_eq_true rfl) (Nat.le_of_ble_eq_true rfl) rfl rfl rfl (fun v646 h645 q647 => ?_)
      obtain ⟨rfl, eh645⟩ := q647
      subst h645
      show G w _ h640 6 50 201 #[.val (.int p0), .val (.int p1), .val (.int p2), .val (.int p3), .val (.int p4), .val (.int p5), .val (.int p0.toInt8.toInt32), .val (.int p1.toInt8.toInt32), .val (.int x8), .val (.int x9), .val (.int x10), .val (.int x11), .val (.int (3 : Int32)), .val (.int tt), .val (.ref a), .val (.int p0.toInt8.toInt32)] [(.int p0.toInt8.toInt32)]
      refine g_iload C (pc' := 203) at_201 rfl rfl ?_
      refine g_icN C (pc' := 206) at_203 rfl (says_f (cd := .ne) (fun q => q rfl)) rfl ?_
      refine g_iconst C (pc' := 207) (v := (1 : Int32)) at_206 (by decide) rfl ?_
      refine g_goto C (pc' := 211) at_207 (by decide) rfl ?_
      exact g_zreturn C at_211 rfl rfl (Nat.le_of_ble_eq_true rfl) (Nat.le_of_ble_eq_true rfl) (rfl)
  refine g_iloadN C (pc' := 1) at_0 rfl rfl ?_
  refine g_i2b C (pc' := 2) at_1 rfl rfl ?_
  refine g_istore C (pc' := 4) (Ls' := #[.val (.int p0), .val (.int p1), .val (.int p2), .val (.int p3), .val (.int p4), .val (.int p5), .val (.int p0.toInt8.toInt32), .unset, .unset, .unset, .unset, .unset, .unset, .unset, .unset, .unset]) at_2 rfl rfl rfl ?_
  refine g_iloadN C (pc' := 5) at_4 rfl rfl ?_
  refine g_i2b C (pc' := 6) at_5 rfl rfl ?_
  refine g_istore C (pc' := 8) (Ls' := #[.val (.int p0), .val (.int p1), .val (.int p2), .val (.int p3), .val (.int p4), .val (.int p5), .val (.int p0.toInt8.toInt32), .val (.int p1.toInt8.toInt32), .unset, .unset, .unset, .unset, .unset, .unset, .unset, .unset]) at_6 rfl rfl rfl ?_
  refine g_iloadN C (pc' := 9) at_8 rfl rfl ?_
  refine g_i2b C (pc' := 10) at_9 rfl rfl ?_
  refine g_istore C (pc' := 12) (Ls' := #[.val (.int p0), .val (.int p1), .val (.int p2), .val (.int p3), .val (.int p4), .val (.int p5), .val (.int p0.toInt8.toInt32), .val (.int p1.toInt8.toInt32), .val (.int p2.toInt8.toInt32), .unset, .unset, .unset, .unset, .unset, .unset, .unset]) at_10 rfl rfl rfl ?_
  refine g_iload C (pc' := 14) at_12 rfl rfl ?_
  refine g_iconst C (pc' := 15) (v := (3 : Int32)) at_14 (by decide) rfl ?_
  refine g_iand C (pc' := 16) at_15 rfl rfl ?_
  refine g_istore C (pc' := 18) (Ls' := #[.val (.int p0), .val (.int p1), .val (.int p2), .val (.int p3), .val (.int p4), .val (.int p5), .val (.int p0.toInt8.toInt32), .val (.int p1.toInt8.toInt32), .val (.int p2.toInt8.toInt32), .val (.int (p5 &&& (3 : Int32))), .unset, .unset, .unset, .unset, .unset, .unset]) at_16 rfl rfl rfl ?_
  refine g_iload C (pc' := 20) at_18 rfl rfl ?_
  refine g_iconst C (pc' := 21) (v := (2 : Int32)) at_20 (by decide) rfl ?_
  refine g_iushr C (pc' := 22) at_21 rfl rfl ?_
  refine g_iconst C (pc' := 23) (v := (1 : Int32)) at_22 (by decide) rfl ?_
  refine g_iand C (pc' := 24) at_23 rfl rfl ?_
  refine g_ifB C (pcT := 31) (pc' := 27) at_24 rfl (by decide) rfl rfl (fun hc648 => ?_) (fun hc648 => ?_)
  · replace hc648 : (((p5.toUInt32 >>> ((2 : Int32) &&& 31).toUInt32).toInt32) &&& (1 : Int32)) = (0 : Int32) := hc648
    refine g_iconst C (pc' := 32) (v := (0 : Int32)) at_31 (by decide) rfl ?_
    refine g_istore C (pc' := 34) (Ls' := #[.val (.int p0), .val (.int p1), .val (.int p2), .val (.int p3), .val (.int p4), .val (.int p5), .val (.int p0.toInt8.toInt32), .val (.int p1.toInt8.toInt32), .val (.int p2.toInt8.toInt32), .val (.int (p5 &&& (3 : Int32))), .val (.int (0 : Int32)), .unset, .unset, .unset, .unset, .unset]) at_32 rfl rfl rfl ?_
    refine g_iconst C (pc' := 35) (v := (4 : Int32)) at_34 (by decide) rfl ?_
    refine g_iloadN C (pc' := 36) at_35 rfl rfl ?_
    refine g_ldcInt C (pc' := 38) (wd hw 0 rfl) at_36 rfl ?_
    refine g_iand C (pc' := 39) at_38 rfl rfl ?_
    have J42 : ∀ (sz : Int32) (h4 : (4 : Int32) ≤ sz), G w LQ h 0 0 42 #[.val (.int p0), .val (.int p1), .val (.int p2), .val (.int p3), .val (.int p4), .val (.int p5), .val (.int p0.toInt8.toInt32), .val (.int p1.toInt8.toInt32), .val (.int p2.toInt8.toInt32), .val (.int (p5 &&& (3 : Int32))), .val (.int (0 : Int32)), .unset, .unset, .unset, .unset, .unset] [(.int sz)] := by
      intro sz h4
      refine g_istore C (pc' := 44) (Ls' := #[.val (.int p0), .val (.int p1), .val (.int p2), .val (.int p3), .val (.int p4), .val (.int p5), .val (.int p0.toInt8.toInt32), .val (.int p1.toInt8.toInt32), .val (.int p2.toInt8.toInt32), .val (.int (p5 &&& (3 : Int32))), .val (.int (0 : Int32)), .val (.int sz), .unset, .unset, .unset, .unset]) at_42 rfl rfl rfl ?_
      refine g_iload C (pc' := 46) at_44 rfl rfl ?_
      refine g_iconst C (pc' := 47) (v := (3 : Int32)) at_46 (by decide) rfl ?_
      refine g_iand C (pc' := 48) at_47 rfl rfl ?_
      refine g_istore C (pc' := 50) (Ls' := #[.val (.int p0), .val (.int p1), .val (.int p2), .val (.int p3), .val (.int p4), .val (.int p5), .val (.int p0.toInt8.toInt32), .val (.int p1.toInt8.toInt32), .val (.int p2.toInt8.toInt32), .val (.int (p5 &&& (3 : Int32))), .val (.int (0 : Int32)), .val (.int sz), .val (.int (p4 &&& (3 : Int32))), .unset, .unset, .unset]) at_48 rfl rfl rfl ?_
      rcases own_and3 p5 with e3 | e3 | e3 | e3
      · rw [e3]
        refine g_iload C (pc' := 52) at_50 rfl rfl ?_
        refine g_iconst C (pc' := 53) (v := (1 : Int32)) at_52 (by decide) rfl ?_
        refine g_icY C (pc' := 61) at_53 rfl (by decide) (by decide) rfl ?_
        refine g_iload C (pc' := 63) at_61 rfl rfl ?_
        refine g_iconst C (pc' := 64) (v := (2 : Int32)) at_63 (by decide) rfl ?_
        refine g_icY C (pc' := 72) at_64 rfl (by decide) (by decide) rfl ?_
        refine g_bipush C (pc' := 74) (v := (13 : Int32)) at_72 (by decide) rfl ?_
        refine g_istore C (pc' := 76) (Ls' := #[.val (.int p0), .val (.int p1), .val (.int p2), .val (.int p3), .val (.int p4), .val (.int p5), .val (.int p0.toInt8.toInt32), .val (.int p1.toInt8.toInt32), .val (.int p2.toInt8.toInt32), .val (.int (0 : Int32)), .val (.int (0 : Int32)), .val (.int sz), .val (.int (p4 &&& (3 : Int32))), .val (.int (13 : Int32)), .unset, .unset]) at_74 rfl rfl rfl ?_
        refine g_new C (pc' := 79) (k' := 1) (n' := 10) (wd hw 5 rfl) (wd hw 6 rfl) (wd hw 7 rfl) at_76 (by decide) (by decide) rfl rfl rfl (fun h649 b650 ex651 E652 A653 D654 => ?_)
        have ge_b650 : n0 ≤ b650 := by rw [ex651]; exact O.1 ▸ O.2.1
        have f655 := O.ext E652
        have F_types_b650 : Fld Z h649 b650 "com/example/strictwire/strictwire/EventOrder" "types" "[B" .null := D654 (Or.inl (wd hw 16 rfl)) (ty := (.array .byte)) (by decide)
        have F_elementTypes_b650 : Fld Z h649 b650 "com/example/strictwire/strictwire/EventOrder" "elementTypes" "[B" .null := D654 (Or.inl (wd hw 18 rfl)) (ty := (.array .byte)) (by decide)
        have F_valueTypes_b650 : Fld Z h649 b650 "com/example/strictwire/strictwire/EventOrder" "valueTypes" "[B" .null := D654 (Or.inl (wd hw 20 rfl)) (ty := (.array .byte)) (by decide)
        have F_left_b650 : Fld Z h649 b650 "com/example/strictwire/strictwire/EventOrder" "left" "[J" .null := D654 (Or.inl (wd hw 23 rfl)) (ty := (.array .long)) (by decide)
        have F_ids_b650 : Fld Z h649 b650 "com/example/strictwire/strictwire/EventOrder" "ids" "[Lcom/example/strictwire/strictwire/FieldIds;" .null := D654 (Or.inl (wd hw 27 rfl)) (ty := (.array (.object "com/example/strictwire/strictwire/FieldIds"))) (by decide)
        have F_next_b650 : Fld Z h649 b650 "com/example/strictwire/strictwire/EventOrder" "next" "I" (.int (0 : Int32)) := D654 (Or.inl (wd hw 41 rfl)) (ty := .int) (by decide)
        have F_depth_b650 : Fld Z h649 b650 "com/example/strictwire/strictwire/EventOrder" "depth" "I" (.int (0 : Int32)) := D654 (Or.inl (wd hw 53 rfl)) (ty := .int) (by decide)
        refine g_dup C (pc' := 80) at_79 rfl rfl rfl ?_
        refine g_special C (pc' := 83) (k' := 6) (n' := 50) (argsL := []) (rest := [(.ref b650)]) (wd hw 8 rfl) (wd hw 9 rfl) (wd hw 7 rfl) (wd hw 10 rfl) (by decide) rfl at_80 pd_1 rfl rfl rfl (eo_init l Z a0 hw n0 h649 f655 s_BEGIN s_VALUE H b650 ge_b650 A653 F_types_b650 F_elementTypes_b650 F_valueTypes_b650 F_left_b650 F_ids_b650 F_next_b650 F_depth_b650) (Nat.le_of_ble_eq_true rfl) (Nat.le_of_ble_eq_true rfl) (Nat.le_of_ble_eq_true rfl) (Nat.le_of_ble_eq_true rfl) rfl rfl rfl (fun v659 h658 q660 => ?_)
        obtain ⟨rfl, K656, t, e, v, f, kt, ke, kv, kf, P657⟩ := q660
        have f661 := f655.keep K656 (allS ge_b650 all0)
        have f662 := A653.keep K656
        obtain ⟨ga, gt, ge, gv, gf, n_a_t, n_a_e, n_a_v, n_a_f, n_t_e, n_t_v, n_t_f, n_e_v, n_e_f, n_v_f, -⟩ := id P657
        show G w _ h658 6 50 83 #[.val (.int p0), .val (.int p1), .val (.int p2), .val (.int p3), .val (.int p4), .val (.int p5), .val (.int p0.toInt8.toInt32), .val (.int p1.toInt8.toInt32), .val (.int p2.toInt8.toInt32), .val (.int (0 : Int32)), .val (.int (0 : Int32)), .val (.int sz), .val (.int (p4 &&& (3 : Int32))), .val (.int (13 : Int32)), .unset, .unset] [(.ref b650)]
        refine g_astore C (pc' := 85) (Ls' := #[.val (.int p0), .val (.int p1), .val (.int p2), .val (.int p3), .val (.int p4), .val (.int p5), .val (.int p0.toInt8.toInt32), .val (.int p1.toInt8.toInt32), .val (.int p2.toInt8.toInt32), .val (.int (0 : Int32)), .val (.int (0 : Int32)), .val (.int sz), .val (.int (p4 &&& (3 : Int32))), .val (.int (13 : Int32)), .val (.ref b650), .unset]) at_83 rfl rfl rfl rfl ?_
        refine g_iload C (pc' := 87) at_85 rfl rfl ?_
        refine g_ifY C (pc' := 105) at_87 rfl (by decide) (by decide) rfl ?_
        refine g_iload C (pc' := 107) at_105 rfl rfl ?_
        refine g_bipush C (pc' := 109) (v := (13 : Int32)) at_107 (by decide) rfl ?_
        refine g_icN C (pc' := 112) at_109 rfl (by decide) rfl ?_
        refine g_aload C (pc' := 114) at_112 rfl rfl rfl ?_
        refine g_iload C (pc' := 116) at_114 rfl rfl ?_
        refine g_iload C (pc' := 118) at_116 rfl rfl ?_
        refine g_iload C (pc' := 120) at_118 rfl rfl ?_
        refine g_virtual C (pc' := 123) (k' := 6) (n' := 50) (argsL := [(.int p0.toInt8.toInt32), (.int p1.toInt8.toInt32), (.int sz)]) (rest := []) (wd hw 42 rfl) (wd hw 43 rfl) (nfSel (wd hw 45 rfl)) (wd hw 45 rfl) (wd hw 44 rfl) (wd hw 7 rfl) (wd hw 46 rfl) (by decide) at_120 pd_3 rfl rfl rfl f662 (omap_0 l Z a0 hw n0 h658 f661 s_BEGIN s_VALUE H b650 t e v f kt ke kv kf (0 : Int32) (0 : Int32) (0 : Int32) (0 : Int32) (0 : Int32) (0 : Int32) (0 : Int32) (0 : Int64) (0 : Int64) p0.toInt8.toInt32 p1.toInt8.toInt32 sz (own_nar _) (own_nar _) (own_pos (by have := own_sz2 h4; omega)) P657) (Nat.le_of_ble_eq_true rfl) (Nat.le_of_ble_eq_true rfl) (Nat.le_of_ble_eq_true rfl) (Nat.le_of_ble_eq_true rfl) rfl rfl rfl (fun v666 h665 q667 => ?_)
        obtain ⟨rfl, K663, P664⟩ := q667
        have f668 := f661.keep K663 (allS ge_b650 (allS gt (allS ge (allS gv (allS gf all0)))))
        have f669 := f662.keep K663
        show G w _ h665 6 50 123 #[.val (.int p0), .val (.int p1), .val (.int p2), .val (.int p3), .val (.int p4), .val (.int p5), .val (.int p0.toInt8.toInt32), .val (.int p1.toInt8.toInt32), .val (.int p2.toInt8.toInt32), .val (.int (0 : Int32)), .val (.int (0 : Int32)), .val (.int sz), .val (.int (p4 &&& (3 : Int32))), .val (.int (13 : Int32)), .val (.ref b650), .unset] []
        refine g_goto C (pc' := 137) at_123 (by decide) rfl ?_
        exact JE11 _ f668 p2.toInt8.toInt32 (0 : Int32) (0 : Int32) sz b650 t e v f kt ke kv kf (2 : Int32) (0 : Int32) (0 : Int32) (0 : Int32) (0 : Int64) ((2 : Int64) * sz.toInt64) (by have := own_sz2 h4; omega) (own_sz2 h4).2.1 (own_sz2 h4).2.2 P664
      · rw [e3]
        refine g_iload C (pc' := 52) at_50 rfl rfl ?_
        refine g_iconst C (pc' := 53) (v := (1 : Int32)) at_52 (by decide) rfl ?_
        refine g_icN C (pc' := 56) at_53 rfl (by decide) rfl ?_
        refine g_bipush C (pc' := 58) (v := (15 : Int32)) at_56 (by decide) rfl ?_
        refine g_goto C (pc' := 74) at_58 (by decide) rfl ?_
        refine g_istore C (pc' := 76) (Ls' := #[.val (.int p0), .val (.int p1), .val (.int p2), .val (.int p3), .val (.int p4), .val (.int p5), .val (.int p0.toInt8.toInt32), .val (.int p1.toInt8.toInt32), .val (.int p2.toInt8.toInt32), .val (.int (1 : Int32)), .val (.int (0 : Int32)), .val (.int sz), .val (.int (p4 &&& (3 : Int32))), .val (.int (15 : Int32)), .unset, .unset]) at_74 rfl rfl rfl ?_
        refine g_new C (pc' := 79) (k' := 1) (n' := 10) (wd hw 5 rfl) (wd hw 6 rfl) (wd hw 7 rfl) at_76 (by decide) (by decide) rfl rfl rfl (fun h670 b671 ex672 E673 A674 D675 => ?_)
        have ge_b671 : n0 ≤ b671 := by rw [ex672]; exact O.1 ▸ O.2.1
        have f676 := O.ext E673
        have F_types_b671 : Fld Z h670 b671 "com/example/strictwire/strictwire/EventOrder" "types" "[B" .null := D675 (Or.inl (wd hw 16 rfl)) (ty := (.array .byte)) (by decide)
        have F_elementTypes_b671 : Fld Z h670 b671 "com/example/strictwire/strictwire/EventOrder" "elementTypes" "[B" .null := D675 (Or.inl (wd hw 18 rfl)) (ty := (.array .byte)) (by decide)
        have F_valueTypes_b671 : Fld Z h670 b671 "com/example/strictwire/strictwire/EventOrder" "valueTypes" "[B" .null := D675 (Or.inl (wd hw 20 rfl)) (ty := (.array .byte)) (by decide)
        have F_left_b671 : Fld Z h670 b671 "com/example/strictwire/strictwire/EventOrder" "left" "[J" .null := D675 (Or.inl (wd hw 23 rfl)) (ty := (.array .long)) (by decide)
        have F_ids_b671 : Fld Z h670 b671 "com/example/strictwire/strictwire/EventOrder" "ids" "[Lcom/example/strictwire/strictwire/FieldIds;" .null := D675 (Or.inl (wd hw 27 rfl)) (ty := (.array (.object "com/example/strictwire/strictwire/FieldIds"))) (by decide)
        have F_next_b671 : Fld Z h670 b671 "com/example/strictwire/strictwire/EventOrder" "next" "I" (.int (0 : Int32)) := D675 (Or.inl (wd hw 41 rfl)) (ty := .int) (by decide)
        have F_depth_b671 : Fld Z h670 b671 "com/example/strictwire/strictwire/EventOrder" "depth" "I" (.int (0 : Int32)) := D675 (Or.inl (wd hw 53 rfl)) (ty := .int) (by decide)
        refine g_dup C (pc' := 80) at_79 rfl rfl rfl ?_
        refine g_special C (pc' := 83) (k' := 6) (n' := 50) (argsL := []) (rest := [(.ref b671)]) (wd hw 8 rfl) (wd hw 9 rfl) (wd hw 7 rfl) (wd hw 10 rfl) (by decide) rfl at_80 pd_1 rfl rfl rfl (eo_init l Z a0 hw n0 h670 f676 s_BEGIN s_VALUE H b671 ge_b671 A674 F_types_b671 F_elementTypes_b671 F_valueTypes_b671 F_left_b671 F_ids_b671 F_next_b671 F_depth_b671) (Nat.le_of_ble_eq_true rfl) (Nat.le_of_ble_eq_true rfl) (Nat.le_of_ble_eq_true rfl) (Nat.le_of_ble_eq_true rfl) rfl rfl rfl (fun v680 h679 q681 => ?_)
        obtain ⟨rfl, K677, t, e, v, f, kt, ke, kv, kf, P678⟩ := q681
        have f682 := f676.keep K677 (allS ge_b671 all0)
        have f683 := A674.keep K677
        obtain ⟨ga, gt, ge, gv, gf, n_a_t, n_a_e, n_a_v, n_a_f, n_t_e, n_t_v, n_t_f, n_e_v, n_e_f, n_v_f, -⟩ := id P678
        show G w _ h679 6 50 83 #[.val (.int p0), .val (.int p1), .val (.int p2), .val (.int p3), .val (.int p4), .val (.int p5), .val (.int p0.toInt8.toInt32), .val (.int p1.toInt8.toInt32), .val (.int p2.toInt8.toInt32), .val (.int (1 : Int32)), .val (.int (0 : Int32)), .val (.int sz), .val (.int (p4 &&& (3 : Int32))), .val (.int (15 : Int32)), .unset, .unset] [(.ref b671)]
        refine g_astore C (pc' := 85) (Ls' := #[.val (.int p0), .val (.int p1), .val (.int p2), .val (.int p3), .val (.int p4), .val (.int p5), .val (.int p0.toInt8.toInt32), .val (.int p1.toInt8.toInt32), .val (.int p2.toInt8.toInt32), .val (.int (1 : Int32)), .val (.int (0 : Int32)), .val (.int sz), .val (.int (p4 &&& (3 : Int32))), .val (.int (15 : Int32)), .val (.ref b671), .unset]) at_83 rfl rfl rfl rfl ?_
        refine g_iload C (pc' := 87) at_85 rfl rfl ?_
        refine g_ifY C (pc' := 105) at_87 rfl (by decide) (by decide) rfl ?_
        refine g_iload C (pc' := 107) at_105 rfl rfl ?_
        refine g_bipush C (pc' := 109) (v := (13 : Int32)) at_107 (by decide) rfl ?_
        refine g_icY C (pc' := 126) at_109 rfl (by decide) (by decide) rfl ?_
        refine g_aload C (pc' := 128) at_126 rfl rfl rfl ?_
        refine g_iload C (pc' := 130) at_128 rfl rfl ?_
        refine g_iload C (pc' := 132) at_130 rfl rfl ?_
        refine g_iload C (pc' := 134) at_132 rfl rfl ?_
        refine g_virtual C (pc' := 137) (k' := 6) (n' := 50) (argsL := [(.int (15 : Int32)), (.int p0.toInt8.toInt32), (.int sz)]) (rest := []) (wd hw 61 rfl) (wd hw 62 rfl) (nfSel (wd hw 64 rfl)) (wd hw 64 rfl) (wd hw 63 rfl) (wd hw 7 rfl) (wd hw 65 rfl) (by decide) at_134 pd_3 rfl rfl rfl f683 (ocol_0 l Z a0 hw n0 h679 f682 s_BEGIN s_VALUE H b671 t e v f kt ke kv kf (0 : Int32) (0 : Int32) (0 : Int32) (0 : Int32) (0 : Int32) (0 : Int32) (0 : Int32) (0 : Int64) (0 : Int64) (15 : Int32) p0.toInt8.toInt32 sz (by decide) (own_nar _) (by decide) (own_pos (own_sz1 h4).1) P678) (Nat.le_of_ble_eq_true rfl) (Nat.le_of_ble_eq_true rfl) (Nat.le_of_ble_eq_true rfl) (Nat.le_of_ble_eq_true rfl) rfl rfl rfl (fun v687 h686 q688 => ?_)
        obtain ⟨rfl, K684, P685⟩ := q688
        have f689 := f682.keep K684 (allS ge_b671 (allS gt (allS ge (allS gv (allS gf all0)))))
        have f690 := f683.keep K684
        show G w _ h686 6 50 137 #[.val (.int p0), .val (.int p1), .val (.int p2), .val (.int p3), .val (.int p4), .val (.int p5), .val (.int p0.toInt8.toInt32), .val (.int p1.toInt8.toInt32), .val (.int p2.toInt8.toInt32), .val (.int (1 : Int32)), .val (.int (0 : Int32)), .val (.int sz), .val (.int (p4 &&& (3 : Int32))), .val (.int (15 : Int32)), .val (.ref b671), .unset] []
        exact JE10 _ f689 p2.toInt8.toInt32 (1 : Int32) (0 : Int32) sz b671 t e v f kt ke kv kf (2 : Int32) (0 : Int32) (0 : Int32) (0 : Int32) (0 : Int32) (0 : Int64) (15 : Int32) (by decide) sz.toInt64 (own_sz1 h4).1 (own_sz1 h4).2 P685
      · rw [e3]
        refine g_iload C (pc' := 52) at_50 rfl rfl ?_
        refine g_iconst C (pc' := 53) (v := (1 : Int32)) at_52 (by decide) rfl ?_
        refine g_icY C (pc' := 61) at_53 rfl (by decide) (by decide) rfl ?_
        refine g_iload C (pc' := 63) at_61 rfl rfl ?_
        refine g_iconst C (pc' := 64) (v := (2 : Int32)) at_63 (by decide) rfl ?_
        refine g_icN C (pc' := 67) at_64 rfl (by decide) rfl ?_
        refine g_bipush C (pc' := 69) (v := (14 : Int32)) at_67 (by decide) rfl ?_
        refine g_goto C (pc' := 74) at_69 (by decide) rfl ?_
        refine g_istore C (pc' := 76) (Ls' := #[.val (.int p0), .val (.int p1), .val (.int p2), .val (.int p3), .val (.int p4), .val (.int p5), .val (.int p0.toInt8.toInt32), .val (.int p1.toInt8.toInt32), .val (.int p2.toInt8.toInt32), .val (.int (2 : Int32)), .val (.int (0 : Int32)), .val (.int sz), .val (.int (p4 &&& (3 : Int32))), .val (.int (14 : Int32)), .unset, .unset]) at_74 rfl rfl rfl ?_
        refine g_new C (pc' := 79) (k' := 1) (n' := 10) (wd hw 5 rfl) (wd hw 6 rfl) (wd hw 7 rfl) at_76 (by decide) (by decide) rfl rfl rfl (fun h691 b692 ex693 E694 A695 D696 => ?_)
        have ge_b692 : n0 ≤ b692 := by rw [ex693]; exact O.1 ▸ O.2.1
        have f697 := O.ext E694
        have F_types_b692 : Fld Z h691 b692 "com/example/strictwire/strictwire/EventOrder" "types" "[B" .null := D696 (Or.inl (wd hw 16 rfl)) (ty := (.array .byte)) (by decide)
        have F_elementTypes_b692 : Fld Z h691 b692 "com/example/strictwire/strictwire/EventOrder" "elementTypes" "[B" .null := D696 (Or.inl (wd hw 18 rfl)) (ty := (.array .byte)) (by decide)
        have F_valueTypes_b692 : Fld Z h691 b692 "com/example/strictwire/strictwire/EventOrder" "valueTypes" "[B" .null := D696 (Or.inl (wd hw 20 rfl)) (ty := (.array .byte)) (by decide)
        have F_left_b692 : Fld Z h691 b692 "com/example/strictwire/strictwire/EventOrder" "left" "[J" .null := D696 (Or.inl (wd hw 23 rfl)) (ty := (.array .long)) (by decide)
        have F_ids_b692 : Fld Z h691 b692 "com/example/strictwire/strictwire/EventOrder" "ids" "[Lcom/example/strictwire/strictwire/FieldIds;" .null := D696 (Or.inl (wd hw 27 rfl)) (ty := (.array (.object "com/example/strictwire/strictwire/FieldIds"))) (by decide)
        have F_next_b692 : Fld Z h691 b692 "com/example/strictwire/strictwire/EventOrder" "next" "I" (.int (0 : Int32)) := D696 (Or.inl (wd hw 41 rfl)) (ty := .int) (by decide)
        have F_depth_b692 : Fld Z h691 b692 "com/example/strictwire/strictwire/EventOrder" "depth" "I" (.int (0 : Int32)) := D696 (Or.inl (wd hw 53 rfl)) (ty := .int) (by decide)
        refine g_dup C (pc' := 80) at_79 rfl rfl rfl ?_
        refine g_special C (pc' := 83) (k' := 6) (n' := 50) (argsL := []) (rest := [(.ref b692)]) (wd hw 8 rfl) (wd hw 9 rfl) (wd hw 7 rfl) (wd hw 10 rfl) (by decide) rfl at_80 pd_1 rfl rfl rfl (eo_init l Z a0 hw n0 h691 f697 s_BEGIN s_VALUE H b692 ge_b692 A695 F_types_b692 F_elementTypes_b692 F_valueTypes_b692 F_left_b692 F_ids_b692 F_next_b692 F_depth_b692) (Nat.le_of_ble_eq_true rfl) (Nat.le_of_ble_eq_true rfl) (Nat.le_of_ble_eq_true rfl) (Nat.le_of_ble_eq_true rfl) rfl rfl rfl (fun v701 h700 q702 => ?_)
        obtain ⟨rfl, K698, t, e, v, f, kt, ke, kv, kf, P699⟩ := q702
        have f703 := f697.keep K698 (allS ge_b692 all0)
        have f704 := A695.keep K698
        obtain ⟨ga, gt, ge, gv, gf, n_a_t, n_a_e, n_a_v, n_a_f, n_t_e, n_t_v, n_t_f, n_e_v, n_e_f, n_v_f, -⟩ := id P699
        show G w _ h700 6 50 83 #[.val (.int p0), .val (.int p1), .val (.int p2), .val (.int p3), .val (.int p4), .val (.int p5), .val (.int p0.toInt8.toInt32), .val (.int p1.toInt8.toInt32), .val (.int p2.toInt8.toInt32), .val (.int (2 : Int32)), .val (.int (0 : Int32)), .val (.int sz), .val (.int (p4 &&& (3 : Int32))), .val (.int (14 : Int32)), .unset, .unset] [(.ref b692)]
        refine g_astore C (pc' := 85) (Ls' := #[.val (.int p0), .val (.int p1), .val (.int p2), .val (.int p3), .val (.int p4), .val (.int p5), .val (.int p0.toInt8.toInt32), .val (.int p1.toInt8.toInt32), .val (.int p2.toInt8.toInt32), .val (.int (2 : Int32)), .val (.int (0 : Int32)), .val (.int sz), .val (.int (p4 &&& (3 : Int32))), .val (.int (14 : Int32)), .val (.ref b692), .unset]) at_83 rfl rfl rfl rfl ?_
        refine g_iload C (pc' := 87) at_85 rfl rfl ?_
        refine g_ifY C (pc' := 105) at_87 rfl (by decide) (by decide) rfl ?_
        refine g_iload C (pc' := 107) at_105 rfl rfl ?_
        refine g_bipush C (pc' := 109) (v := (13 : Int32)) at_107 (by decide) rfl ?_
        refine g_icY C (pc' := 126) at_109 rfl (by decide) (by decide) rfl ?_
        refine g_aload C (pc' := 128) at_126 rfl rfl rfl ?_
        refine g_iload C (pc' := 130) at_128 rfl rfl ?_
        refine g_iload C (pc' := 132) at_130 rfl rfl ?_
        refine g_iload C (pc' := 134) at_132 rfl rfl ?_
        refine g_virtual C (pc' := 137) (k' := 6) (n' := 50) (argsL := [(.int (14 : Int32)), (.int p0.toInt8.toInt32), (.int sz)]) (rest := []) (wd hw 61 rfl) (wd hw 62 rfl) (nfSel (wd hw 64 rfl)) (wd hw 64 rfl) (wd hw 63 rfl) (wd hw 7 rfl) (wd hw 65 rfl) (by decide) at_134 pd_3 rfl rfl rfl f704 (ocol_0 l Z a0 hw n0 h700 f703 s_BEGIN s_VALUE H b692 t e v f kt ke kv kf (0 : Int32) (0 : Int32) (0 : Int32) (0 : Int32) (0 : Int32) (0 : Int32) (0 : Int32) (0 : Int64) (0 : Int64) (14 : Int32) p0.toInt8.toInt32 sz (by decide) (own_nar _) (by decide) (own_pos (own_sz1 h4).1) P699) (Nat.le_of_ble_eq_true rfl) (Nat.le_of_ble_eq_true rfl) (Nat.le_of_ble_eq_true rfl) (Nat.le_of_ble_eq_true rfl) rfl rfl rfl (fun v708 h707 q709 => ?_)
        obtain ⟨rfl, K705, P706⟩ := q709
        have f710 := f703.keep K705 (allS ge_b692 (allS gt (allS ge (allS gv (allS gf all0)))))
        have f711 := f704.keep K705
        show G w _ h707 6 50 137 #[.val (.int p0), .val (.int p1), .val (.int p2), .val (.int p3), .val (.int p4), .val (.int p5), .val (.int p0.toInt8.toInt32), .val (.int p1.toInt8.toInt32), .val (.int p2.toInt8.toInt32), .val (.int (2 : Int32)), .val (.int (0 : Int32)), .val (.int sz), .val (.int (p4 &&& (3 : Int32))), .val (.int (14 : Int32)), .val (.ref b692), .unset] []
        exact JE10 _ f710 p2.toInt8.toInt32 (2 : Int32) (0 : Int32) sz b692 t e v f kt ke kv kf (2 : Int32) (0 : Int32) (0 : Int32) (0 : Int32) (0 : Int32) (0 : Int64) (14 : Int32) (by decide) sz.toInt64 (own_sz1 h4).1 (own_sz1 h4).2 P706
      · rw [e3]
        refine g_iload C (pc' := 52) at_50 rfl rfl ?_
        refine g_iconst C (pc' := 53) (v := (1 : Int32)) at_52 (by decide) rfl ?_
        refine g_icY C (pc' := 61) at_53 rfl (by decide) (by decide) rfl ?_
        refine g_iload C (pc' := 63) at_61 rfl rfl ?_
        refine g_iconst C (pc' := 64) (v := (2 : Int32)) at_63 (by decide) rfl ?_
        refine g_icY C (pc' := 72) at_64 rfl (by decide) (by decide) rfl ?_
        refine g_bipush C (pc' := 74) (v := (13 : Int32)) at_72 (by decide) rfl ?_
        refine g_istore C (pc' := 76) (Ls' := #[.val (.int p0), .val (.int p1), .val (.int p2), .val (.int p3), .val (.int p4), .val (.int p5), .val (.int p0.toInt8.toInt32), .val (.int p1.toInt8.toInt32), .val (.int p2.toInt8.toInt32), .val (.int (3 : Int32)), .val (.int (0 : Int32)), .val (.int sz), .val (.int (p4 &&& (3 : Int32))), .val (.int (13 : Int32)), .unset, .unset]) at_74 rfl rfl rfl ?_
        refine g_new C (pc' := 79) (k' := 1) (n' := 10) (wd hw 5 rfl) (wd hw 6 rfl) (wd hw 7 rfl) at_76 (by decide) (by decide) rfl rfl rfl (fun h712 b713 ex714 E715 A716 D717 => ?_)
        have ge_b713 : n0 ≤ b713 := by rw [ex714]; exact O.1 ▸ O.2.1
        have f718 := O.ext E715
        have F_types_b713 : Fld Z h712 b713 "com/example/strictwire/strictwire/EventOrder" "types" "[B" .null := D717 (Or.inl (wd hw 16 rfl)) (ty := (.array .byte)) (by decide)
        have F_elementTypes_b713 : Fld Z h712 b713 "com/example/strictwire/strictwire/EventOrder" "elementTypes" "[B" .null := D717 (Or.inl (wd hw 18 rfl)) (ty := (.array .byte)) (by decide)
        have F_valueTypes_b713 : Fld Z h712 b713 "com/example/strictwire/strictwire/EventOrder" "valueTypes" "[B" .null := D717 (Or.inl (wd hw 20 rfl)) (ty := (.array .byte)) (by decide)
        have F_left_b713 : Fld Z h712 b713 "com/example/strictwire/strictwire/EventOrder" "left" "[J" .null := D717 (Or.inl (wd hw 23 rfl)) (ty := (.array .long)) (by decide)
        have F_ids_b713 : Fld Z h712 b713 "com/example/strictwire/strictwire/EventOrder" "ids" "[Lcom/example/strictwire/strictwire/FieldIds;" .null := D717 (Or.inl (wd hw 27 rfl)) (ty := (.array (.object "com/example/strictwire/strictwire/FieldIds"))) (by decide)
        have F_next_b713 : Fld Z h712 b713 "com/example/strictwire/strictwire/EventOrder" "next" "I" (.int (0 : Int32)) := D717 (Or.inl (wd hw 41 rfl)) (ty := .int) (by decide)
        have F_depth_b713 : Fld Z h712 b713 "com/example/strictwire/strictwire/EventOrder" "depth" "I" (.int (0 : Int32)) := D717 (Or.inl (wd hw 53 rfl)) (ty := .int) (by decide)
        refine g_dup C (pc' := 80) at_79 rfl rfl rfl ?_
        refine g_special C (pc' := 83) (k' := 6) (n' := 50) (argsL := []) (rest := [(.ref b713)]) (wd hw 8 rfl) (wd hw 9 rfl) (wd hw 7 rfl) (wd hw 10 rfl) (by decide) rfl at_80 pd_1 rfl rfl rfl (eo_init l Z a0 hw n0 h712 f718 s_BEGIN s_VALUE H b713 ge_b713 A716 F_types_b713 F_elementTypes_b713 F_valueTypes_b713 F_left_b713 F_ids_b713 F_next_b713 F_depth_b713) (Nat.le_of_ble_eq_true rfl) (Nat.le_of_ble_eq_true rfl) (Nat.le_of_ble_eq_true rfl) (Nat.le_of_ble_eq_true rfl) rfl rfl rfl (fun v722 h721 q723 => ?_)
        obtain ⟨rfl, K719, t, e, v, f, kt, ke, kv, kf, P720⟩ := q723
        have f724 := f718.keep K719 (allS ge_b713 all0)
        have f725 := A716.keep K719
        obtain ⟨ga, gt, ge, gv, gf, n_a_t, n_a_e, n_a_v, n_a_f, n_t_e, n_t_v, n_t_f, n_e_v, n_e_f, n_v_f, -⟩ := id P720
        show G w _ h721 6 50 83 #[.val (.int p0), .val (.int p1), .val (.int p2), .val (.int p3), .val (.int p4), .val (.int p5), .val (.int p0.toInt8.toInt32), .val (.int p1.toInt8.toInt32), .val (.int p2.toInt8.toInt32), .val (.int (3 : Int32)), .val (.int (0 : Int32)), .val (.int sz), .val (.int (p4 &&& (3 : Int32))), .val (.int (13 : Int32)), .unset, .unset] [(.ref b713)]
        refine g_astore C (pc' := 85) (Ls' := #[.val (.int p0), .val (.int p1), .val (.int p2), .val (.int p3), .val (.int p4), .val (.int p5), .val (.int p0.toInt8.toInt32), .val (.int p1.toInt8.toInt32), .val (.int p2.toInt8.toInt32), .val (.int (3 : Int32)), .val (.int (0 : Int32)), .val (.int sz), .val (.int (p4 &&& (3 : Int32))), .val (.int (13 : Int32)), .val (.ref b713), .unset]) at_83 rfl rfl rfl rfl ?_
        refine g_iload C (pc' := 87) at_85 rfl rfl ?_
        refine g_ifY C (pc' := 105) at_87 rfl (by decide) (by decide) rfl ?_
        refine g_iload C (pc' := 107) at_105 rfl rfl ?_
        refine g_bipush C (pc' := 109) (v := (13 : Int32)) at_107 (by decide) rfl ?_
        refine g_icN C (pc' := 112) at_109 rfl (by decide) rfl ?_
        refine g_aload C (pc' := 114) at_112 rfl rfl rfl ?_
        refine g_iload C (pc' := 116) at_114 rfl rfl ?_
        refine g_iload C (pc' := 118) at_116 rfl rfl ?_
        refine g_iload C (pc' := 120) at_118 rfl rfl ?_
        refine g_virtual C (pc' := 123) (k' := 6) (n' := 50) (argsL := [(.int p0.toInt8.toInt32), (.int p1.toInt8.toInt32), (.int sz)]) (rest := []) (wd hw 42 rfl) (wd hw 43 rfl) (nfSel (wd hw 45 rfl)) (wd hw 45 rfl) (wd hw 44 rfl) (wd hw 7 rfl) (wd hw 46 rfl) (by decide) at_120 pd_3 rfl rfl rfl f725 (omap_0 l Z a0 hw n0 h721 f724 s_BEGIN s_VALUE H b713 t e v f kt ke kv kf (0 : Int32) (0 : Int32) (0 : Int32) (0 : Int32) (0 : Int32) (0 : Int32) (0 : Int32) (0 : Int64) (0 : Int64) p0.toInt8.toInt32 p1.toInt8.toInt32 sz (own_nar _) (own_nar _) (own_pos (by have := own_sz2 h4; omega)) P720) (Nat.le_of_ble_eq_true rfl) (Nat.le_of_ble_eq_true rfl) (Nat.le_of_ble_eq_true rfl) (Nat.le_of_ble_eq_true rfl) rfl rfl rfl (fun v729 h728 q730 => ?_)
        obtain ⟨rfl, K726, P727⟩ := q730
        have f731 := f724.keep K726 (allS ge_b713 (allS gt (allS ge (allS gv (allS gf all0)))))
        have f732 := f725.keep K726
        show G w _ h728 6 50 123 #[.val (.int p0), .val (.int p1), .val (.int p2), .val (.int p3), .val (.int p4), .val (.int p5), .val (.int p0.toInt8.toInt32), .val (.int p1.toInt8.toInt32), .val (.int p2.toInt8.toInt32), .val (.int (3 : Int32)), .val (.int (0 : Int32)), .val (.int sz), .val (.int (p4 &&& (3 : Int32))), .val (.int (13 : Int32)), .val (.ref b713), .unset] []
        refine g_goto C (pc' := 137) at_123 (by decide) rfl ?_
        exact JE11 _ f731 p2.toInt8.toInt32 (3 : Int32) (0 : Int32) sz b713 t e v f kt ke kv kf (2 : Int32) (0 : Int32) (0 : Int32) (0 : Int32) (0 : Int64) ((2 : Int64) * sz.toInt64) (by have := own_sz2 h4; omega) (own_sz2 h4).2.1 (own_sz2 h4).2.2 P727
    by_cases hy : (4 : Int32) < (p3 &&& (2147483647 : Int32))
    · refine g_callS C (pc' := 42) (k' := 0) (n' := 0) (argsL := [(.int (4 : Int32)), (.int (p3 &&& (2147483647 : Int32)))]) (rest := []) (wd hw 1 rfl) (wd hw 2 rfl) (wd hw 3 rfl) (wd hw 4 rfl) (by decide) at_39 pd_0 rfl rfl rfl (max_lt l Z a0 hw n0 h O s_BEGIN s_VALUE H (p3 &&& (2147483647 : Int32)) hy) (Nat.le_of_ble_eq_true rfl) (Nat.le_of_ble_eq_true rfl) (Nat.le_of_ble_eq_true rfl) (Nat.le_of_ble_eq_true rfl) rfl rfl rfl (fun v734 h733 q735 => ?_)
      obtain ⟨rfl, eh733⟩ := q735
      subst h733
      show G w _ h 0 0 42 #[.val (.int p0), .val (.int p1), .val (.int p2), .val (.int p3), .val (.int p4), .val (.int p5), .val (.int p0.toInt8.toInt32), .val (.int p1.toInt8.toInt32), .val (.int p2.toInt8.toInt32), .val (.int (p5 &&& (3 : Int32))), .val (.int (0 : Int32)), .unset, .unset, .unset, .unset, .unset] [(.int (p3 &&& (2147483647 : Int32)))]
      exact J42 _ (own_le hy)
    · refine g_callS C (pc' := 42) (k' := 0) (n' := 0) (argsL := [(.int (4 : Int32)), (.int (p3 &&& (2147483647 : Int32)))]) (rest := []) (wd hw 1 rfl) (wd hw 2 rfl) (wd hw 3 rfl) (wd hw 4 rfl) (by decide) at_39 pd_0 rfl rfl rfl (max_ge l Z a0 hw n0 h O s_BEGIN s_VALUE H (p3 &&& (2147483647 : Int32)) hy) (Nat.le_of_ble_eq_true rfl) (Nat.le_of_ble_eq_true rfl) (Nat.le_of_ble_eq_true rfl) (Nat.le_of_ble_eq_true rfl) rfl rfl rfl (fun v737 h736 q738 => ?_)
      obtain ⟨rfl, eh736⟩ := q738
      subst h736
      show G w _ h 0 0 42 #[.val (.int p0), .val (.int p1), .val (.int p2), .val (.int p3), .val (.int p4), .val (.int p5), .val (.int p0.toInt8.toInt32), .val (.int p1.toInt8.toInt32), .val (.int p2.toInt8.toInt32), .val (.int (p5 &&& (3 : Int32))), .val (.int (0 : Int32)), .unset, .unset, .unset, .unset, .unset] [(.int (4 : Int32))]
      exact J42 _ (by decide)
  · replace hc648 : ¬ (((p5.toUInt32 >>> ((2 : Int32) &&& 31).toUInt32).toInt32) &&& (1 : Int32)) = (0 : Int32) := hc648
    refine g_iconst C (pc' := 28) (v := (1 : Int32)) at_27 (by decide) rfl ?_
    refine g_goto C (pc' := 32) at_28 (by decide) rfl ?_
    refine g_istore C (pc' := 34) (Ls' := #[.val (.int p0), .val (.int p1), .val (.int p2), .val (.int p3), .val (.int p4), .val (.int p5), .val (.int p0.toInt8.toInt32), .val (.int p1.toInt8.toInt32), .val (.int p2.toInt8.toInt32), .val (.int (p5 &&& (3 : Int32))), .val (.int (1 : Int32)), .unset, .unset, .unset, .unset, .unset]) at_32 rfl rfl rfl ?_
    refine g_iconst C (pc' := 35) (v := (4 : Int32)) at_34 (by decide) rfl ?_
    refine g_iloadN C (pc' := 36) at_35 rfl rfl ?_
    refine g_ldcInt C (pc' := 38) (wd hw 0 rfl) at_36 rfl ?_
    refine g_iand C (pc' := 39) at_38 rfl rfl ?_
    have J42 : ∀ (sz : Int32) (h4 : (4 : Int32) ≤ sz), G w LQ h 0 0 42 #[.val (.int p0), .val (.int p1), .val (.int p2), .val (.int p3), .val (.int p4), .val (.int p5), .val (.int p0.toInt8.toInt32), .val (.int p1.toInt8.toInt32), .val (.int p2.toInt8.toInt32), .val (.int (p5 &&& (3 : Int32))), .val (.int (1 : Int32)), .unset, .unset, .unset, .unset, .unset] [(.int sz)] := by
      intro sz h4
      refine g_istore C (pc' := 44) (Ls' := #[.val (.int p0), .val (.int p1), .val (.int p2), .val (.int p3), .val (.int p4), .val (.int p5), .val (.int p0.toInt8.toInt32), .val (.int p1.toInt8.toInt32), .val (.int p2.toInt8.toInt32), .val (.int (p5 &&& (3 : Int32))), .val (.int (1 : Int32)), .val (.int sz), .unset, .unset, .unset, .unset]) at_42 rfl rfl rfl ?_
      refine g_iload C (pc' := 46) at_44 rfl rfl ?_
      refine g_iconst C (pc' := 47) (v := (3 : Int32)) at_46 (by decide) rfl ?_
      refine g_iand C (pc' := 48) at_47 rfl rfl ?_
      refine g_istore C (pc' := 50) (Ls' := #[.val (.int p0), .val (.int p1), .val (.int p2), .val (.int p3), .val (.int p4), .val (.int p5), .val (.int p0.toInt8.toInt32), .val (.int p1.toInt8.toInt32), .val (.int p2.toInt8.toInt32), .val (.int (p5 &&& (3 : Int32))), .val (.int (1 : Int32)), .val (.int sz), .val (.int (p4 &&& (3 : Int32))), .unset, .unset, .unset]) at_48 rfl rfl rfl ?_
      rcases own_and3 p5 with e3 | e3 | e3 | e3
      · rw [e3]
        refine g_iload C (pc' := 52) at_50 rfl rfl ?_
        refine g_iconst C (pc' := 53) (v := (1 : Int32)) at_52 (by decide) rfl ?_
        refine g_icY C (pc' := 61) at_53 rfl (by decide) (by decide) rfl ?_
        refine g_iload C (pc' := 63) at_61 rfl rfl ?_
        refine g_iconst C (pc' := 64) (v := (2 : Int32)) at_63 (by decide) rfl ?_
        refine g_icY C (pc' := 72) at_64 rfl (by decide) (by decide) rfl ?_
        refine g_bipush C (pc' := 74) (v := (13 : Int32)) at_72 (by decide) rfl ?_
        refine g_istore C (pc' := 76) (Ls' := #[.val (.int p0), .val (.int p1), .val (.int p2), .val (.int p3), .val (.int p4), .val (.int p5), .val (.int p0.toInt8.toInt32), .val (.int p1.toInt8.toInt32), .val (.int p2.toInt8.toInt32), .val (.int (0 : Int32)), .val (.int (1 : Int32)), .val (.int sz), .val (.int (p4 &&& (3 : Int32))), .val (.int (13 : Int32)), .unset, .unset]) at_74 rfl rfl rfl ?_
        refine g_new C (pc' := 79) (k' := 1) (n' := 10) (wd hw 5 rfl) (wd hw 6 rfl) (wd hw 7 rfl) at_76 (by decide) (by decide) rfl rfl rfl (fun h739 b740 ex741 E742 A743 D744 => ?_)
        have ge_b740 : n0 ≤ b740 := by rw [ex741]; exact O.1 ▸ O.2.1
        have f745 := O.ext E742
        have F_types_b740 : Fld Z h739 b740 "com/example/strictwire/strictwire/EventOrder" "types" "[B" .null := D744 (Or.inl (wd hw 16 rfl)) (ty := (.array .byte)) (by decide)
        have F_elementTypes_b740 : Fld Z h739 b740 "com/example/strictwire/strictwire/EventOrder" "elementTypes" "[B" .null := D744 (Or.inl (wd hw 18 rfl)) (ty := (.array .byte)) (by decide)
        have F_valueTypes_b740 : Fld Z h739 b740 "com/example/strictwire/strictwire/EventOrder" "valueTypes" "[B" .null := D744 (Or.inl (wd hw 20 rfl)) (ty := (.array .byte)) (by decide)
        have F_left_b740 : Fld Z h739 b740 "com/example/strictwire/strictwire/EventOrder" "left" "[J" .null := D744 (Or.inl (wd hw 23 rfl)) (ty := (.array .long)) (by decide)
        have F_ids_b740 : Fld Z h739 b740 "com/example/strictwire/strictwire/EventOrder" "ids" "[Lcom/example/strictwire/strictwire/FieldIds;" .null := D744 (Or.inl (wd hw 27 rfl)) (ty := (.array (.object "com/example/strictwire/strictwire/FieldIds"))) (by decide)
        have F_next_b740 : Fld Z h739 b740 "com/example/strictwire/strictwire/EventOrder" "next" "I" (.int (0 : Int32)) := D744 (Or.inl (wd hw 41 rfl)) (ty := .int) (by decide)
        have F_depth_b740 : Fld Z h739 b740 "com/example/strictwire/strictwire/EventOrder" "depth" "I" (.int (0 : Int32)) := D744 (Or.inl (wd hw 53 rfl)) (ty := .int) (by decide)
        refine g_dup C (pc' := 80) at_79 rfl rfl rfl ?_
        refine g_special C (pc' := 83) (k' := 6) (n' := 50) (argsL := []) (rest := [(.ref b740)]) (wd hw 8 rfl) (wd hw 9 rfl) (wd hw 7 rfl) (wd hw 10 rfl) (by decide) rfl at_80 pd_1 rfl rfl rfl (eo_init l Z a0 hw n0 h739 f745 s_BEGIN s_VALUE H b740 ge_b740 A743 F_types_b740 F_elementTypes_b740 F_valueTypes_b740 F_left_b740 F_ids_b740 F_next_b740 F_depth_b740) (Nat.le_of_ble_eq_true rfl) (Nat.le_of_ble_eq_true rfl) (Nat.le_of_ble_eq_true rfl) (Nat.le_of_ble_eq_true rfl) rfl rfl rfl (fun v749 h748 q750 => ?_)
        obtain ⟨rfl, K746, t, e, v, f, kt, ke, kv, kf, P747⟩ := q750
        have f751 := f745.keep K746 (allS ge_b740 all0)
        have f752 := A743.keep K746
        obtain ⟨ga, gt, ge, gv, gf, n_a_t, n_a_e, n_a_v, n_a_f, n_t_e, n_t_v, n_t_f, n_e_v, n_e_f, n_v_f, -⟩ := id P747
        show G w _ h748 6 50 83 #[.val (.int p0), .val (.int p1), .val (.int p2), .val (.int p3), .val (.int p4), .val (.int p5), .val (.int p0.toInt8.toInt32), .val (.int p1.toInt8.toInt32), .val (.int p2.toInt8.toInt32), .val (.int (0 : Int32)), .val (.int (1 : Int32)), .val (.int sz), .val (.int (p4 &&& (3 : Int32))), .val (.int (13 : Int32)), .unset, .unset] [(.ref b740)]
        refine g_astore C (pc' := 85) (Ls' := #[.val (.int p0), .val (.int p1), .val (.int p2), .val (.int p3), .val (.int p4), .val (.int p5), .val (.int p0.toInt8.toInt32), .val (.int p1.toInt8.toInt32), .val (.int p2.toInt8.toInt32), .val (.int (0 : Int32)), .val (.int (1 : Int32)), .val (.int sz), .val (.int (p4 &&& (3 : Int32))), .val (.int (13 : Int32)), .val (.ref b740), .unset]) at_83 rfl rfl rfl rfl ?_
        refine g_iload C (pc' := 87) at_85 rfl rfl ?_
        refine g_ifN C (pc' := 90) at_87 rfl (by decide) rfl ?_
        refine g_aload C (pc' := 92) at_90 rfl rfl rfl ?_
        refine g_iload C (pc' := 94) at_92 rfl rfl ?_
        refine g_iload C (pc' := 96) at_94 rfl rfl ?_
        refine g_iconst C (pc' := 97) (v := (3 : Int32)) at_96 (by decide) rfl ?_
        refine g_virtual C (pc' := 100) (k' := 6) (n' := 50) (argsL := [(.int (13 : Int32)), (.int p2.toInt8.toInt32), (.int (3 : Int32))]) (rest := []) (wd hw 42 rfl) (wd hw 43 rfl) (nfSel (wd hw 45 rfl)) (wd hw 45 rfl) (wd hw 44 rfl) (wd hw 7 rfl) (wd hw 46 rfl) (by decide) at_97 pd_3 rfl rfl rfl f752 (omap_0 l Z a0 hw n0 h748 f751 s_BEGIN s_VALUE H b740 t e v f kt ke kv kf (0 : Int32) (0 : Int32) (0 : Int32) (0 : Int32) (0 : Int32) (0 : Int32) (0 : Int32) (0 : Int64) (0 : Int64) (13 : Int32) p2.toInt8.toInt32 (3 : Int32) (by decide) (own_nar _) (by decide) P747) (Nat.le_of_ble_eq_true rfl) (Nat.le_of_ble_eq_true rfl) (Nat.le_of_ble_eq_true rfl) (Nat.le_of_ble_eq_true rfl) rfl rfl rfl (fun v756 h755 q757 => ?_)
        obtain ⟨rfl, K753, P754⟩ := q757
        have f758 := f751.keep K753 (allS ge_b740 (allS gt (allS ge (allS gv (allS gf all0)))))
        have f759 := f752.keep K753
        show G w _ h755 6 50 100 #[.val (.int p0), .val (.int p1), .val (.int p2), .val (.int p3), .val (.int p4), .val (.int p5), .val (.int p0.toInt8.toInt32), .val (.int p1.toInt8.toInt32), .val (.int p2.toInt8.toInt32), .val (.int (0 : Int32)), .val (.int (1 : Int32)), .val (.int sz), .val (.int (p4 &&& (3 : Int32))), .val (.int (13 : Int32)), .val (.ref b740), .unset] []
        refine g_aload C (pc' := 102) at_100 rfl rfl rfl ?_
        refine g_virtual C (pc' := 105) (k' := 6) (n' := 50) (argsL := []) (rest := []) (wd hw 66 rfl) (wd hw 67 rfl) (nfSel (wd hw 69 rfl)) (wd hw 69 rfl) (wd hw 68 rfl) (wd hw 7 rfl) (wd hw 70 rfl) (by decide) at_102 pd_1 rfl rfl rfl f759 (take_1 l Z a0 hw n0 h755 f758 s_BEGIN s_VALUE H b740 t e v f kt ke kv kf (2 : Int32) (13 : Int32) (0 : Int32) (13 : Int32) (0 : Int32) p2.toInt8.toInt32 (0 : Int32) ((2 : Int64) * (3 : Int32).toInt64) (0 : Int64) (by decide) P754) (Nat.le_of_ble_eq_true rfl) (Nat.le_of_ble_eq_true rfl) (Nat.le_of_ble_eq_true rfl) (Nat.le_of_ble_eq_true rfl) rfl rfl rfl (fun v763 h762 q764 => ?_)
        obtain ⟨rfl, K760, P761⟩ := q764
        have f765 := f758.keep K760 (allS ge_b740 (allS gt (allS ge (allS gv (allS gf all0)))))
        have f766 := f759.keep K760
        show G w _ h762 6 50 105 #[.val (.int p0), .val (.int p1), .val (.int p2), .val (.int p3), .val (.int p4), .val (.int p5), .val (.int p0.toInt8.toInt32), .val (.int p1.toInt8.toInt32), .val (.int p2.toInt8.toInt32), .val (.int (0 : Int32)), .val (.int (1 : Int32)), .val (.int sz), .val (.int (p4 &&& (3 : Int32))), .val (.int (13 : Int32)), .val (.ref b740), .unset] []
        refine g_iload C (pc' := 107) at_105 rfl rfl ?_
        refine g_bipush C (pc' := 109) (v := (13 : Int32)) at_107 (by decide) rfl ?_
        refine g_icN C (pc' := 112) at_109 rfl (by decide) rfl ?_
        refine g_aload C (pc' := 114) at_112 rfl rfl rfl ?_
        refine g_iload C (pc' := 116) at_114 rfl rfl ?_
        refine g_iload C (pc' := 118) at_116 rfl rfl ?_
        refine g_iload C (pc' := 120) at_118 rfl rfl ?_
        refine g_virtual C (pc' := 123) (k' := 6) (n' := 50) (argsL := [(.int p0.toInt8.toInt32), (.int p1.toInt8.toInt32), (.int sz)]) (rest := []) (wd hw 42 rfl) (wd hw 43 rfl) (nfSel (wd hw 45 rfl)) (wd hw 45 rfl) (wd hw 44 rfl) (wd hw 7 rfl) (wd hw 46 rfl) (by decide) at_120 pd_3 rfl rfl rfl f766 (omap_1 l Z a0 hw n0 h762 f765 s_BEGIN s_VALUE H b740 t e v f kt ke kv kf (2 : Int32) (13 : Int32) (0 : Int32) (13 : Int32) (0 : Int32) p2.toInt8.toInt32 (0 : Int32) (((2 : Int64) * (3 : Int32).toInt64) - (1 : Int64)) (0 : Int64) p0.toInt8.toInt32 p1.toInt8.toInt32 sz (own_nar _) (own_nar _) (own_pos (by have := own_sz2 h4; omega)) P761) (Nat.le_of_ble_eq_true rfl) (Nat.le_of_ble_eq_true rfl) (Nat.le_of_ble_eq_true rfl) (Nat.le_of_ble_eq_true rfl) rfl rfl rfl (fun v770 h769 q771 => ?_)
        obtain ⟨rfl, K767, P768⟩ := q771
        have f772 := f765.keep K767 (allS ge_b740 (allS gt (allS ge (allS gv (allS gf all0)))))
        have f773 := f766.keep K767
        show G w _ h769 6 50 123 #[.val (.int p0), .val (.int p1), .val (.int p2), .val (.int p3), .val (.int p4), .val (.int p5), .val (.int p0.toInt8.toInt32), .val (.int p1.toInt8.toInt32), .val (.int p2.toInt8.toInt32), .val (.int (0 : Int32)), .val (.int (1 : Int32)), .val (.int sz), .val (.int (p4 &&& (3 : Int32))), .val (.int (13 : Int32)), .val (.ref b740), .unset] []
        refine g_goto C (pc' := 137) at_123 (by decide) rfl ?_
        exact JE21 _ f772 p2.toInt8.toInt32 (0 : Int32) (1 : Int32) sz b740 t e v f kt ke kv kf (2 : Int32) (13 : Int32) (13 : Int32) p2.toInt8.toInt32 (((2 : Int64) * (3 : Int32).toInt64) - (1 : Int64)) ((2 : Int64) * sz.toInt64) (by have := own_sz2 h4; omega) (own_sz2 h4).2.1 (own_sz2 h4).2.2 P768
      · rw [e3]
        refine g_iload C (pc' := 52) at_50 rfl rfl ?_
        refine g_iconst C (pc' := 53) (v := (1 : Int32)) at_52 (by decide) rfl ?_
        refine g_icN C (pc' := 56) at_53 rfl (by decide) rfl ?_
        refine g_bipush C (pc' := 58) (v := (15 : Int32)) at_56 (by decide) rfl ?_
        refine g_goto C (pc' := 74) at_58 (by decide) rfl ?_
        refine g_istore C (pc' := 76) (Ls' := #[.val (.int p0), .val (.int p1), .val (.int p2), .val (.int p3), .val (.int p4), .val (.int p5), .val (.int p0.toInt8.toInt32), .val (.int p1.toInt8.toInt32), .val (.int p2.toInt8.toInt32), .val (.int (1 : Int32)), .val (.int (1 : Int32)), .val (.int sz), .val (.int (p4 &&& (3 : Int32))), .val (.int (15 : Int32)), .unset, .unset]) at_74 rfl rfl rfl ?_
        refine g_new C (pc' := 79) (k' := 1) (n' := 10) (wd hw 5 rfl) (wd hw 6 rfl) (wd hw 7 rfl) at_76 (by decide) (by decide) rfl rfl rfl (fun h774 b775 ex776 E777 A778 D779 => ?_)
        have ge_b775 : n0 ≤ b775 := by rw [ex776]; exact O.1 ▸ O.2.1
        have f780 := O.ext E777
        have F_types_b775 : Fld Z h774 b775 "com/example/strictwire/strictwire/EventOrder" "types" "[B" .null := D779 (Or.inl (wd hw 16 rfl)) (ty := (.array .byte)) (by decide)
        have F_elementTypes_b775 : Fld Z h774 b775 "com/example/strictwire/strictwire/EventOrder" "elementTypes" "[B" .null := D779 (Or.inl (wd hw 18 rfl)) (ty := (.array .byte)) (by decide)
        have F_valueTypes_b775 : Fld Z h774 b775 "com/example/strictwire/strictwire/EventOrder" "valueTypes" "[B" .null := D779 (Or.inl (wd hw 20 rfl)) (ty := (.array .byte)) (by decide)
        have F_left_b775 : Fld Z h774 b775 "com/example/strictwire/strictwire/EventOrder" "left" "[J" .null := D779 (Or.inl (wd hw 23 rfl)) (ty := (.array .long)) (by decide)
        have F_ids_b775 : Fld Z h774 b775 "com/example/strictwire/strictwire/EventOrder" "ids" "[Lcom/example/strictwire/strictwire/FieldIds;" .null := D779 (Or.inl (wd hw 27 rfl)) (ty := (.array (.object "com/example/strictwire/strictwire/FieldIds"))) (by decide)
        have F_next_b775 : Fld Z h774 b775 "com/example/strictwire/strictwire/EventOrder" "next" "I" (.int (0 : Int32)) := D779 (Or.inl (wd hw 41 rfl)) (ty := .int) (by decide)
        have F_depth_b775 : Fld Z h774 b775 "com/example/strictwire/strictwire/EventOrder" "depth" "I" (.int (0 : Int32)) := D779 (Or.inl (wd hw 53 rfl)) (ty := .int) (by decide)
        refine g_dup C (pc' := 80) at_79 rfl rfl rfl ?_
        refine g_special C (pc' := 83) (k' := 6) (n' := 50) (argsL := []) (rest := [(.ref b775)]) (wd hw 8 rfl) (wd hw 9 rfl) (wd hw 7 rfl) (wd hw 10 rfl) (by decide) rfl at_80 pd_1 rfl rfl rfl (eo_init l Z a0 hw n0 h774 f780 s_BEGIN s_VALUE H b775 ge_b775 A778 F_types_b775 F_elementTypes_b775 F_valueTypes_b775 F_left_b775 F_ids_b775 F_next_b775 F_depth_b775) (Nat.le_of_ble_eq_true rfl) (Nat.le_of_ble_eq_true rfl) (Nat.le_of_ble_eq_true rfl) (Nat.le_of_ble_eq_true rfl) rfl rfl rfl (fun v784 h783 q785 => ?_)
        obtain ⟨rfl, K781, t, e, v, f, kt, ke, kv, kf, P782⟩ := q785
        have f786 := f780.keep K781 (allS ge_b775 all0)
        have f787 := A778.keep K781
        obtain ⟨ga, gt, ge, gv, gf, n_a_t, n_a_e, n_a_v, n_a_f, n_t_e, n_t_v, n_t_f, n_e_v, n_e_f, n_v_f, -⟩ := id P782
        show G w _ h783 6 50 83 #[.val (.int p0), .val (.int p1), .val (.int p2), .val (.int p3), .val (.int p4), .val (.int p5), .val (.int p0.toInt8.toInt32), .val (.int p1.toInt8.toInt32), .val (.int p2.toInt8.toInt32), .val (.int (1 : Int32)), .val (.int (1 : Int32)), .val (.int sz), .val (.int (p4 &&& (3 : Int32))), .val (.int (15 : Int32)), .unset, .unset] [(.ref b775)]
        refine g_astore C (pc' := 85) (Ls' := #[.val (.int p0), .val (.int p1), .val (.int p2), .val (.int p3), .val (.int p4), .val (.int p5), .val (.int p0.toInt8.toInt32), .val (.int p1.toInt8.toInt32), .val (.int p2.toInt8.toInt32), .val (.int (1 : Int32)), .val (.int (1 : Int32)), .val (.int sz), .val (.int (p4 &&& (3 : Int32))), .val (.int (15 : Int32)), .val (.ref b775), .unset]) at_83 rfl rfl rfl rfl ?_
        refine g_iload C (pc' := 87) at_85 rfl rfl ?_
        refine g_ifN C (pc' := 90) at_87 rfl (by decide) rfl ?_
        refine g_aload C (pc' := 92) at_90 rfl rfl rfl ?_
        refine g_iload C (pc' := 94) at_92 rfl rfl ?_
        refine g_iload C (pc' := 96) at_94 rfl rfl ?_
        refine g_iconst C (pc' := 97) (v := (3 : Int32)) at_96 (by decide) rfl ?_
        refine g_virtual C (pc' := 100) (k' := 6) (n' := 50) (argsL := [(.int (15 : Int32)), (.int p2.toInt8.toInt32), (.int (3 : Int32))]) (rest := []) (wd hw 42 rfl) (wd hw 43 rfl) (nfSel (wd hw 45 rfl)) (wd hw 45 rfl) (wd hw 44 rfl) (wd hw 7 rfl) (wd hw 46 rfl) (by decide) at_97 pd_3 rfl rfl rfl f787 (omap_0 l Z a0 hw n0 h783 f786 s_BEGIN s_VALUE H b775 t e v f kt ke kv kf (0 : Int32) (0 : Int32) (0 : Int32) (0 : Int32) (0 : Int32) (0 : Int32) (0 : Int32) (0 : Int64) (0 : Int64) (15 : Int32) p2.toInt8.toInt32 (3 : Int32) (by decide) (own_nar _) (by decide) P782) (Nat.le_of_ble_eq_true rfl) (Nat.le_of_ble_eq_true rfl) (Nat.le_of_ble_eq_true rfl) (Nat.le_of_ble_eq_true rfl) rfl rfl rfl (fun v791 h790 q792 => ?_)
        obtain ⟨rfl, K788, P789⟩ := q792
        have f793 := f786.keep K788 (allS ge_b775 (allS gt (allS ge (allS gv (allS gf all0)))))
        have f794 := f787.keep K788
        show G w _ h790 6 50 100 #[.val (.int p0), .val (.int p1), .val (.int p2), .val (.int p3), .val (.int p4), .val (.int p5), .val (.int p0.toInt8.toInt32), .val (.int p1.toInt8.toInt32), .val (.int p2.toInt8.toInt32), .val (.int (1 : Int32)), .val (.int (1 : Int32)), .val (.int sz), .val (.int (p4 &&& (3 : Int32))), .val (.int (15 : Int32)), .val (.ref b775), .unset] []
        refine g_aload C (pc' := 102) at_100 rfl rfl rfl ?_
        refine g_virtual C (pc' := 105) (k' := 6) (n' := 50) (argsL := []) (rest := []) (wd hw 66 rfl) (wd hw 67 rfl) (nfSel (wd hw 69 rfl)) (wd hw 69 rfl) (wd hw 68 rfl) (wd hw 7 rfl) (wd hw 70 rfl) (by decide) at_102 pd_1 rfl rfl rfl f794 (take_1 l Z a0 hw n0 h790 f793 s_BEGIN s_VALUE H b775 t e v f kt ke kv kf (2 : Int32) (13 : Int32) (0 : Int32) (15 : Int32) (0 : Int32) p2.toInt8.toInt32 (0 : Int32) ((2 : Int64) * (3 : Int32).toInt64) (0 : Int64) (by decide) P789) (Nat.le_of_ble_eq_true rfl) (Nat.le_of_ble_eq_true rfl) (Nat.le_of_ble_eq_true rfl) (Nat.le_of_ble_eq_true rfl) rfl rfl rfl (fun v798 h797 q799 => ?_)
        obtain ⟨rfl, K795, P796⟩ := q799
        have f800 := f793.keep K795 (allS ge_b775 (allS gt (allS ge (allS gv (allS gf all0)))))
        have f801 := f794.keep K795
        show G w _ h797 6 50 105 #[.val (.int p0), .val (.int p1), .val (.int p2), .val (.int p3), .val (.int p4), .val (.int p5), .val (.int p0.toInt8.toInt32), .val (.int p1.toInt8.toInt32), .val (.int p2.toInt8.toInt32), .val (.int (1 : Int32)), .val (.int (1 : Int32)), .val (.int sz), .val (.int (p4 &&& (3 : Int32))), .val (.int (15 : Int32)), .val (.ref b775), .unset] []
        refine g_iload C (pc' := 107) at_105 rfl rfl ?_
        refine g_bipush C (pc' := 109) (v := (13 : Int32)) at_107 (by decide) rfl ?_
        refine g_icY C (pc' := 126) at_109 rfl (by decide) (by decide) rfl ?_
        refine g_aload C (pc' := 128) at_126 rfl rfl rfl ?_
        refine g_iload C (pc' := 130) at_128 rfl rfl ?_
        refine g_iload C (pc' := 132) at_130 rfl rfl ?_
        refine g_iload C (pc' := 134) at_132 rfl rfl ?_
        refine g_virtual C (pc' := 137) (k' := 6) (n' := 50) (argsL := [(.int (15 : Int32)), (.int p0.toInt8.toInt32), (.int sz)]) (rest := []) (wd hw 61 rfl) (wd hw 62 rfl) (nfSel (wd hw 64 rfl)) (wd hw 64 rfl) (wd hw 63 rfl) (wd hw 7 rfl) (wd hw 65 rfl) (by decide) at_134 pd_3 rfl rfl rfl f801 (ocol_1 l Z a0 hw n0 h797 f800 s_BEGIN s_VALUE H b775 t e v f kt ke kv kf (2 : Int32) (13 : Int32) (0 : Int32) (15 : Int32) (0 : Int32) p2.toInt8.toInt32 (0 : Int32) (((2 : Int64) * (3 : Int32).toInt64) - (1 : Int64)) (0 : Int64) (15 : Int32) p0.toInt8.toInt32 sz (by decide) (own_nar _) (by decide) (own_pos (own_sz1 h4).1) P796) (Nat.le_of_ble_eq_true rfl) (Nat.le_of_ble_eq_true rfl) (Nat.le_of_ble_eq_true rfl) (Nat.le_of_ble_eq_true rfl) rfl rfl rfl (fun v805 h804 q806 => ?_)
        obtain ⟨rfl, K802, P803⟩ := q806
        have f807 := f800.keep K802 (allS ge_b775 (allS gt (allS ge (allS gv (allS gf all0)))))
        have f808 := f801.keep K802
        show G w _ h804 6 50 137 #[.val (.int p0), .val (.int p1), .val (.int p2), .val (.int p3), .val (.int p4), .val (.int p5), .val (.int p0.toInt8.toInt32), .val (.int p1.toInt8.toInt32), .val (.int p2.toInt8.toInt32), .val (.int (1 : Int32)), .val (.int (1 : Int32)), .val (.int sz), .val (.int (p4 &&& (3 : Int32))), .val (.int (15 : Int32)), .val (.ref b775), .unset] []
        exact JE20 _ f807 p2.toInt8.toInt32 (1 : Int32) (1 : Int32) sz b775 t e v f kt ke kv kf (2 : Int32) (13 : Int32) (15 : Int32) p2.toInt8.toInt32 (0 : Int32) (((2 : Int64) * (3 : Int32).toInt64) - (1 : Int64)) (15 : Int32) (by decide) sz.toInt64 (own_sz1 h4).1 (own_sz1 h4).2 P803
      · rw [e3]
        refine g_iload C (pc' := 52) at_50 rfl rfl ?_
        refine g_iconst C (pc' := 53) (v := (1 : Int32)) at_52 (by decide) rfl ?_
        refine g_icY C (pc' := 61) at_53 rfl (by decide) (by decide) rfl ?_
        refine g_iload C (pc' := 63) at_61 rfl rfl ?_
        refine g_iconst C (pc' := 64) (v := (2 : Int32)) at_63 (by decide) rfl ?_
        refine g_icN C (pc' := 67) at_64 rfl (by decide) rfl ?_
        refine g_bipush C (pc' := 69) (v := (14 : Int32)) at_67 (by decide) rfl ?_
        refine g_goto C (pc' := 74) at_69 (by decide) rfl ?_
        refine g_istore C (pc' := 76) (Ls' := #[.val (.int p0), .val (.int p1), .val (.int p2), .val (.int p3), .val (.int p4), .val (.int p5), .val (.int p0.toInt8.toInt32), .val (.int p1.toInt8.toInt32), .val (.int p2.toInt8.toInt32), .val (.int (2 : Int32)), .val (.int (1 : Int32)), .val (.int sz), .val (.int (p4 &&& (3 : Int32))), .val (.int (14 : Int32)), .unset, .unset]) at_74 rfl rfl rfl ?_
        refine g_new C (pc' := 79) (k' := 1) (n' := 10) (wd hw 5 rfl) (wd hw 6 rfl) (wd hw 7 rfl) at_76 (by decide) (by decide) rfl rfl rfl (fun h809 b810 ex811 E812 A813 D814 => ?_)
        have ge_b810 : n0 ≤ b810 := by rw [ex811]; exact O.1 ▸ O.2.1
        have f815 := O.ext E812
        have F_types_b810 : Fld Z h809 b810 "com/example/strictwire/strictwire/EventOrder" "types" "[B" .null := D814 (Or.inl (wd hw 16 rfl)) (ty := (.array .byte)) (by decide)
        have F_elementTypes_b810 : Fld Z h809 b810 "com/example/strictwire/strictwire/EventOrder" "elementTypes" "[B" .null := D814 (Or.inl (wd hw 18 rfl)) (ty := (.array .byte)) (by decide)
        have F_valueTypes_b810 : Fld Z h809 b810 "com/example/strictwire/strictwire/EventOrder" "valueTypes" "[B" .null := D814 (Or.inl (wd hw 20 rfl)) (ty := (.array .byte)) (by decide)
        have F_left_b810 : Fld Z h809 b810 "com/example/strictwire/strictwire/EventOrder" "left" "[J" .null := D814 (Or.inl (wd hw 23 rfl)) (ty := (.array .long)) (by decide)
        have F_ids_b810 : Fld Z h809 b810 "com/example/strictwire/strictwire/EventOrder" "ids" "[Lcom/example/strictwire/strictwire/FieldIds;" .null := D814 (Or.inl (wd hw 27 rfl)) (ty := (.array (.object "com/example/strictwire/strictwire/FieldIds"))) (by decide)
        have F_next_b810 : Fld Z h809 b810 "com/example/strictwire/strictwire/EventOrder" "next" "I" (.int (0 : Int32)) := D814 (Or.inl (wd hw 41 rfl)) (ty := .int) (by decide)
        have F_depth_b810 : Fld Z h809 b810 "com/example/strictwire/strictwire/EventOrder" "depth" "I" (.int (0 : Int32)) := D814 (Or.inl (wd hw 53 rfl)) (ty := .int) (by decide)
        refine g_dup C (pc' := 80) at_79 rfl rfl rfl ?_
        refine g_special C (pc' := 83) (k' := 6) (n' := 50) (argsL := []) (rest := [(.ref b810)]) (wd hw 8 rfl) (wd hw 9 rfl) (wd hw 7 rfl) (wd hw 10 rfl) (by decide) rfl at_80 pd_1 rfl rfl rfl (eo_init l Z a0 hw n0 h809 f815 s_BEGIN s_VALUE H b810 ge_b810 A813 F_types_b810 F_elementTypes_b810 F_valueTypes_b810 F_left_b810 F_ids_b810 F_next_b810 F_depth_b810) (Nat.le_of_ble_eq_true rfl) (Nat.le_of_ble_eq_true rfl) (Nat.le_of_ble_eq_true rfl) (Nat.le_of_ble_eq_true rfl) rfl rfl rfl (fun v819 h818 q820 => ?_)
        obtain ⟨rfl, K816, t, e, v, f, kt, ke, kv, kf, P817⟩ := q820
        have f821 := f815.keep K816 (allS ge_b810 all0)
        have f822 := A813.keep K816
        obtain ⟨ga, gt, ge, gv, gf, n_a_t, n_a_e, n_a_v, n_a_f, n_t_e, n_t_v, n_t_f, n_e_v, n_e_f, n_v_f, -⟩ := id P817
        show G w _ h818 6 50 83 #[.val (.int p0), .val (.int p1), .val (.int p2), .val (.int p3), .val (.int p4), .val (.int p5), .val (.int p0.toInt8.toInt32), .val (.int p1.toInt8.toInt32), .val (.int p2.toInt8.toInt32), .val (.int (2 : Int32)), .val (.int (1 : Int32)), .val (.int sz), .val (.int (p4 &&& (3 : Int32))), .val (.int (14 : Int32)), .unset, .unset] [(.ref b810)]
        refine g_astore C (pc' := 85) (Ls' := #[.val (.int p0), .val (.int p1), .val (.int p2), .val (.int p3), .val (.int p4), .val (.int p5), .val (.int p0.toInt8.toInt32), .val (.int p1.toInt8.toInt32), .val (.int p2.toInt8.toInt32), .val (.int (2 : Int32)), .val (.int (1 : Int32)), .val (.int sz), .val (.int (p4 &&& (3 : Int32))), .val (.int (14 : Int32)), .val (.ref b810), .unset]) at_83 rfl rfl rfl rfl ?_
        refine g_iload C (pc' := 87) at_85 rfl rfl ?_
        refine g_ifN C (pc' := 90) at_87 rfl (by decide) rfl ?_
        refine g_aload C (pc' := 92) at_90 rfl rfl rfl ?_
        refine g_iload C (pc' := 94) at_92 rfl rfl ?_
        refine g_iload C (pc' := 96) at_94 rfl rfl ?_
        refine g_iconst C (pc' := 97) (v := (3 : Int32)) at_96 (by decide) rfl ?_
        refine g_virtual C (pc' := 100) (k' := 6) (n' := 50) (argsL := [(.int (14 : Int32)), (.int p2.toInt8.toInt32), (.int (3 : Int32))]) (rest := []) (wd hw 42 rfl) (wd hw 43 rfl) (nfSel (wd hw 45 rfl)) (wd hw 45 rfl) (wd hw 44 rfl) (wd hw 7 rfl) (wd hw 46 rfl) (by decide) at_97 pd_3 rfl rfl rfl f822 (omap_0 l Z a0 hw n0 h818 f821 s_BEGIN s_VALUE H b810 t e v f kt ke kv kf (0 : Int32) (0 : Int32) (0 : Int32) (0 : Int32) (0 : Int32) (0 : Int32) (0 : Int32) (0 : Int64) (0 : Int64) (14 : Int32) p2.toInt8.toInt32 (3 : Int32) (by decide) (own_nar _) (by decide) P817) (Nat.le_of_ble_eq_true rfl) (Nat.le_of_ble_eq_true rfl) (Nat.le_of_ble_eq_true rfl) (Nat.le_of_ble_eq_true rfl) rfl rfl rfl (fun v826 h825 q827 => ?_)
        obtain ⟨rfl, K823, P824⟩ := q827
        have f828 := f821.keep K823 (allS ge_b810 (allS gt (allS ge (allS gv (allS gf all0)))))
        have f829 := f822.keep K823
        show G w _ h825 6 50 100 #[.val (.int p0), .val (.int p1), .val (.int p2), .val (.int p3), .val (.int p4), .val (.int p5), .val (.int p0.toInt8.toInt32), .val (.int p1.toInt8.toInt32), .val (.int p2.toInt8.toInt32), .val (.int (2 : Int32)), .val (.int (1 : Int32)), .val (.int sz), .val (.int (p4 &&& (3 : Int32))), .val (.int (14 : Int32)), .val (.ref b810), .unset] []
        refine g_aload C (pc' := 102) at_100 rfl rfl rfl ?_
        refine g_virtual C (pc' := 105) (k' := 6) (n' := 50) (argsL := []) (rest := []) (wd hw 66 rfl) (wd hw 67 rfl) (nfSel (wd hw 69 rfl)) (wd hw 69 rfl) (wd hw 68 rfl) (wd hw 7 rfl) (wd hw 70 rfl) (by decide) at_102 pd_1 rfl rfl rfl f829 (take_1 l Z a0 hw n0 h825 f828 s_BEGIN s_VALUE H b810 t e v f kt ke kv kf (2 : Int32) (13 : Int32) (0 : Int32) (14 : Int32) (0 : Int32) p2.toInt8.toInt32 (0 : Int32) ((2 : Int64) * (3 : Int32).toInt64) (0 : Int64) (by decide) P824) (Nat.le_of_ble_eq_true rfl) (Nat.le_of_ble_eq_true rfl) (Nat.le_of_ble_eq_true rfl) (Nat.le_of_ble_eq_true rfl) rfl rfl rfl (fun v833 h832 q834 => ?_)
        obtain ⟨rfl, K830, P831⟩ := q834
        have f835 := f828.keep K830 (allS ge_b810 (allS gt (allS ge (allS gv (allS gf all0)))))
        have f836 := f829.keep K830
        show G w _ h832 6 50 105 #[.val (.int p0), .val (.int p1), .val (.int p2), .val (.int p3), .val (.int p4), .val (.int p5), .val (.int p0.toInt8.toInt32), .val (.int p1.toInt8.toInt32), .val (.int p2.toInt8.toInt32), .val (.int (2 : Int32)), .val (.int (1 : Int32)), .val (.int sz), .val (.int (p4 &&& (3 : Int32))), .val (.int (14 : Int32)), .val (.ref b810), .unset] []
        refine g_iload C (pc' := 107) at_105 rfl rfl ?_
        refine g_bipush C (pc' := 109) (v := (13 : Int32)) at_107 (by decide) rfl ?_
        refine g_icY C (pc' := 126) at_109 rfl (by decide) (by decide) rfl ?_
        refine g_aload C (pc' := 128) at_126 rfl rfl rfl ?_
        refine g_iload C (pc' := 130) at_128 rfl rfl ?_
        refine g_iload C (pc' := 132) at_130 rfl rfl ?_
        refine g_iload C (pc' := 134) at_132 rfl rfl ?_
        refine g_virtual C (pc' := 137) (k' := 6) (n' := 50) (argsL := [(.int (14 : Int32)), (.int p0.toInt8.toInt32), (.int sz)]) (rest := []) (wd hw 61 rfl) (wd hw 62 rfl) (nfSel (wd hw 64 rfl)) (wd hw 64 rfl) (wd hw 63 rfl) (wd hw 7 rfl) (wd hw 65 rfl) (by decide) at_134 pd_3 rfl rfl rfl f836 (ocol_1 l Z a0 hw n0 h832 f835 s_BEGIN s_VALUE H b810 t e v f kt ke kv kf (2 : Int32) (13 : Int32) (0 : Int32) (14 : Int32) (0 : Int32) p2.toInt8.toInt32 (0 : Int32) (((2 : Int64) * (3 : Int32).toInt64) - (1 : Int64)) (0 : Int64) (14 : Int32) p0.toInt8.toInt32 sz (by decide) (own_nar _) (by decide) (own_pos (own_sz1 h4).1) P831) (Nat.le_of_ble_eq_true rfl) (Nat.le_of_ble_eq_true rfl) (Nat.le_of_ble_eq_true rfl) (Nat.le_of_ble_eq_true rfl) rfl rfl rfl (fun v840 h839 q841 => ?_)
        obtain ⟨rfl, K837, P838⟩ := q841
        have f842 := f835.keep K837 (allS ge_b810 (allS gt (allS ge (allS gv (allS gf all0)))))
        have f843 := f836.keep K837
        show G w _ h839 6 50 137 #[.val (.int p0), .val (.int p1), .val (.int p2), .val (.int p3), .val (.int p4), .val (.int p5), .val (.int p0.toInt8.toInt32), .val (.int p1.toInt8.toInt32), .val (.int p2.toInt8.toInt32), .val (.int (2 : Int32)), .val (.int (1 : Int32)), .val (.int sz), .val (.int (p4 &&& (3 : Int32))), .val (.int (14 : Int32)), .val (.ref b810), .unset] []
        exact JE20 _ f842 p2.toInt8.toInt32 (2 : Int32) (1 : Int32) sz b810 t e v f kt ke kv kf (2 : Int32) (13 : Int32) (14 : Int32) p2.toInt8.toInt32 (0 : Int32) (((2 : Int64) * (3 : Int32).toInt64) - (1 : Int64)) (14 : Int32) (by decide) sz.toInt64 (own_sz1 h4).1 (own_sz1 h4).2 P838
      · rw [e3]
        refine g_iload C (pc' := 52) at_50 rfl rfl ?_
        refine g_iconst C (pc' := 53) (v := (1 : Int32)) at_52 (by decide) rfl ?_
        refine g_icY C (pc' := 61) at_53 rfl (by decide) (by decide) rfl ?_
        refine g_iload C (pc' := 63) at_61 rfl rfl ?_
        refine g_iconst C (pc' := 64) (v := (2 : Int32)) at_63 (by decide) rfl ?_
        refine g_icY C (pc' := 72) at_64 rfl (by decide) (by decide) rfl ?_
        refine g_bipush C (pc' := 74) (v := (13 : Int32)) at_72 (by decide) rfl ?_
        refine g_istore C (pc' := 76) (Ls' := #[.val (.int p0), .val (.int p1), .val (.int p2), .val (.int p3), .val (.int p4), .val (.int p5), .val (.int p0.toInt8.toInt32), .val (.int p1.toInt8.toInt32), .val (.int p2.toInt8.toInt32), .val (.int (3 : Int32)), .val (.int (1 : Int32)), .val (.int sz), .val (.int (p4 &&& (3 : Int32))), .val (.int (13 : Int32)), .unset, .unset]) at_74 rfl rfl rfl ?_
        refine g_new C (pc' := 79) (k' := 1) (n' := 10) (wd hw 5 rfl) (wd hw 6 rfl) (wd hw 7 rfl) at_76 (by decide) (by decide) rfl rfl rfl (fun h844 b845 ex846 E847 A848 D849 => ?_)
        have ge_b845 : n0 ≤ b845 := by rw [ex846]; exact O.1 ▸ O.2.1
        have f850 := O.ext E847
        have F_types_b845 : Fld Z h844 b845 "com/example/strictwire/strictwire/EventOrder" "types" "[B" .null := D849 (Or.inl (wd hw 16 rfl)) (ty := (.array .byte)) (by decide)
        have F_elementTypes_b845 : Fld Z h844 b845 "com/example/strictwire/strictwire/EventOrder" "elementTypes" "[B" .null := D849 (Or.inl (wd hw 18 rfl)) (ty := (.array .byte)) (by decide)
        have F_valueTypes_b845 : Fld Z h844 b845 "com/example/strictwire/strictwire/EventOrder" "valueTypes" "[B" .null := D849 (Or.inl (wd hw 20 rfl)) (ty := (.array .byte)) (by decide)
        have F_left_b845 : Fld Z h844 b845 "com/example/strictwire/strictwire/EventOrder" "left" "[J" .null := D849 (Or.inl (wd hw 23 rfl)) (ty := (.array .long)) (by decide)
        have F_ids_b845 : Fld Z h844 b845 "com/example/strictwire/strictwire/EventOrder" "ids" "[Lcom/example/strictwire/strictwire/FieldIds;" .null := D849 (Or.inl (wd hw 27 rfl)) (ty := (.array (.object "com/example/strictwire/strictwire/FieldIds"))) (by decide)
        have F_next_b845 : Fld Z h844 b845 "com/example/strictwire/strictwire/EventOrder" "next" "I" (.int (0 : Int32)) := D849 (Or.inl (wd hw 41 rfl)) (ty := .int) (by decide)
        have F_depth_b845 : Fld Z h844 b845 "com/example/strictwire/strictwire/EventOrder" "depth" "I" (.int (0 : Int32)) := D849 (Or.inl (wd hw 53 rfl)) (ty := .int) (by decide)
        refine g_dup C (pc' := 80) at_79 rfl rfl rfl ?_
        refine g_special C (pc' := 83) (k' := 6) (n' := 50) (argsL := []) (rest := [(.ref b845)]) (wd hw 8 rfl) (wd hw 9 rfl) (wd hw 7 rfl) (wd hw 10 rfl) (by decide) rfl at_80 pd_1 rfl rfl rfl (eo_init l Z a0 hw n0 h844 f850 s_BEGIN s_VALUE H b845 ge_b845 A848 F_types_b845 F_elementTypes_b845 F_valueTypes_b845 F_left_b845 F_ids_b845 F_next_b845 F_depth_b845) (Nat.le_of_ble_eq_true rfl) (Nat.le_of_ble_eq_true rfl) (Nat.le_of_ble_eq_true rfl) (Nat.le_of_ble_eq_true rfl) rfl rfl rfl (fun v854 h853 q855 => ?_)
        obtain ⟨rfl, K851, t, e, v, f, kt, ke, kv, kf, P852⟩ := q855
        have f856 := f850.keep K851 (allS ge_b845 all0)
        have f857 := A848.keep K851
        obtain ⟨ga, gt, ge, gv, gf, n_a_t, n_a_e, n_a_v, n_a_f, n_t_e, n_t_v, n_t_f, n_e_v, n_e_f, n_v_f, -⟩ := id P852
        show G w _ h853 6 50 83 #[.val (.int p0), .val (.int p1), .val (.int p2), .val (.int p3), .val (.int p4), .val (.int p5), .val (.int p0.toInt8.toInt32), .val (.int p1.toInt8.toInt32), .val (.int p2.toInt8.toInt32), .val (.int (3 : Int32)), .val (.int (1 : Int32)), .val (.int sz), .val (.int (p4 &&& (3 : Int32))), .val (.int (13 : Int32)), .unset, .unset] [(.ref b845)]
        refine g_astore C (pc' := 85) (Ls' := #[.val (.int p0), .val (.int p1), .val (.int p2), .val (.int p3), .val (.int p4), .val (.int p5), .val (.int p0.toInt8.toInt32), .val (.int p1.toInt8.toInt32), .val (.int p2.toInt8.toInt32), .val (.int (3 : Int32)), .val (.int (1 : Int32)), .val (.int sz), .val (.int (p4 &&& (3 : Int32))), .val (.int (13 : Int32)), .val (.ref b845), .unset]) at_83 rfl rfl rfl rfl ?_
        refine g_iload C (pc' := 87) at_85 rfl rfl ?_
        refine g_ifN C (pc' := 90) at_87 rfl (by decide) rfl ?_
        refine g_aload C (pc' := 92) at_90 rfl rfl rfl ?_
        refine g_iload C (pc' := 94) at_92 rfl rfl ?_
        refine g_iload C (pc' := 96) at_94 rfl rfl ?_
        refine g_iconst C (pc' := 97) (v := (3 : Int32)) at_96 (by decide) rfl ?_
        refine g_virtual C (pc' := 100) (k' := 6) (n' := 50) (argsL := [(.int (13 : Int32)), (.int p2.toInt8.toInt32), (.int (3 : Int32))]) (rest := []) (wd hw 42 rfl) (wd hw 43 rfl) (nfSel (wd hw 45 rfl)) (wd hw 45 rfl) (wd hw 44 rfl) (wd hw 7 rfl) (wd hw 46 rfl) (by decide) at_97 pd_3 rfl rfl rfl f857 (omap_0 l Z a0 hw n0 h853 f856 s_BEGIN s_VALUE H b845 t e v f kt ke kv kf (0 : Int32) (0 : Int32) (0 : Int32) (0 : Int32) (0 : Int32) (0 : Int32) (0 : Int32) (0 : Int64) (0 : Int64) (13 : Int32) p2.toInt8.toInt32 (3 : Int32) (by decide) (own_nar _) (by decide) P852) (Nat.le_of_ble_eq_true rfl) (Nat.le_of_ble_eq_true rfl) (Nat.le_of_ble_eq_true rfl) (Nat.le_of_ble_eq_true rfl) rfl rfl rfl (fun v861 h860 q862 => ?_)
        obtain ⟨rfl, K858, P859⟩ := q862
        have f863 := f856.keep K858 (allS ge_b845 (allS gt (allS ge (allS gv (allS gf all0)))))
        have f864 := f857.keep K858
        show G w _ h860 6 50 100 #[.val (.int p0), .val (.int p1), .val (.int p2), .val (.int p3), .val (.int p4), .val (.int p5), .val (.int p0.toInt8.toInt32), .val (.int p1.toInt8.toInt32), .val (.int p2.toInt8.toInt32), .val (.int (3 : Int32)), .val (.int (1 : Int32)), .val (.int sz), .val (.int (p4 &&& (3 : Int32))), .val (.int (13 : Int32)), .val (.ref b845), .unset] []
        refine g_aload C (pc' := 102) at_100 rfl rfl rfl ?_
        refine g_virtual C (pc' := 105) (k' := 6) (n' := 50) (argsL := []) (rest := []) (wd hw 66 rfl) (wd hw 67 rfl) (nfSel (wd hw 69 rfl)) (wd hw 69 rfl) (wd hw 68 rfl) (wd hw 7 rfl) (wd hw 70 rfl) (by decide) at_102 pd_1 rfl rfl rfl f864 (take_1 l Z a0 hw n0 h860 f863 s_BEGIN s_VALUE H b845 t e v f kt ke kv kf (2 : Int32) (13 : Int32) (0 : Int32) (13 : Int32) (0 : Int32) p2.toInt8.toInt32 (0 : Int32) ((2 : Int64) * (3 : Int32).toInt64) (0 : Int64) (by decide) P859) (Nat.le_of_ble_eq_true rfl) (Nat.le_of_ble_eq_true rfl) (Nat.le_of_ble_eq_true rfl) (Nat.le_of_ble_eq_true rfl) rfl rfl rfl (fun v868 h867 q869 => ?_)
        obtain ⟨rfl, K865, P866⟩ := q869
        have f870 := f863.keep K865 (allS ge_b845 (allS gt (allS ge (allS gv (allS gf all0)))))
        have f871 := f864.keep K865
        show G w _ h867 6 50 105 #[.val (.int p0), .val (.int p1), .val (.int p2), .val (.int p3), .val (.int p4), .val (.int p5), .val (.int p0.toInt8.toInt32), .val (.int p1.toInt8.toInt32), .val (.int p2.toInt8.toInt32), .val (.int (3 : Int32)), .val (.int (1 : Int32)), .val (.int sz), .val (.int (p4 &&& (3 : Int32))), .val (.int (13 : Int32)), .val (.ref b845), .unset] []
        refine g_iload C (pc' := 107) at_105 rfl rfl ?_
        refine g_bipush C (pc' := 109) (v := (13 : Int32)) at_107 (by decide) rfl ?_
        refine g_icN C (pc' := 112) at_109 rfl (by decide) rfl ?_
        refine g_aload C (pc' := 114) at_112 rfl rfl rfl ?_
        refine g_iload C (pc' := 116) at_114 rfl rfl ?_
        refine g_iload C (pc' := 118) at_116 rfl rfl ?_
        refine g_iload C (pc' := 120) at_118 rfl rfl ?_
        refine g_virtual C (pc' := 123) (k' := 6) (n' := 50) (argsL := [(.int p0.toInt8.toInt32), (.int p1.toInt8.toInt32), (.int sz)]) (rest := []) (wd hw 42 rfl) (wd hw 43 rfl) (nfSel (wd hw 45 rfl)) (wd hw 45 rfl) (wd hw 44 rfl) (wd hw 7 rfl) (wd hw 46 rfl) (by decide) at_120 pd_3 rfl rfl rfl f871 (omap_1 l Z a0 hw n0 h867 f870 s_BEGIN s_VALUE H b845 t e v f kt ke kv kf (2 : Int32) (13 : Int32) (0 : Int32) (13 : Int32) (0 : Int32) p2.toInt8.toInt32 (0 : Int32) (((2 : Int64) * (3 : Int32).toInt64) - (1 : Int64)) (0 : Int64) p0.toInt8.toInt32 p1.toInt8.toInt32 sz (own_nar _) (own_nar _) (own_pos (by have := own_sz2 h4; omega)) P866) (Nat.le_of_ble_eq_true rfl) (Nat.le_of_ble_eq_true rfl) (Nat.le_of_ble_eq_true rfl) (Nat.le_of_ble_eq_true rfl) rfl rfl rfl (fun v875 h874 q876 => ?_)
        obtain ⟨rfl, K872, P873⟩ := q876
        have f877 := f870.keep K872 (allS ge_b845 (allS gt (allS ge (allS gv (allS gf all0)))))
        have f878 := f871.keep K872
        show G w _ h874 6 50 123 #[.val (.int p0), .val (.int p1), .val (.int p2), .val (.int p3), .val (.int p4), .val (.int p5), .val (.int p0.toInt8.toInt32), .val (.int p1.toInt8.toInt32), .val (.int p2.toInt8.toInt32), .val (.int (3 : Int32)), .val (.int (1 : Int32)), .val (.int sz), .val (.int (p4 &&& (3 : Int32))), .val (.int (13 : Int32)), .val (.ref b845), .unset] []
        refine g_goto C (pc' := 137) at_123 (by decide) rfl ?_
        exact JE21 _ f877 p2.toInt8.toInt32 (3 : Int32) (1 : Int32) sz b845 t e v f kt ke kv kf (2 : Int32) (13 : Int32) (13 : Int32) p2.toInt8.toInt32 (((2 : Int64) * (3 : Int32).toInt64) - (1 : Int64)) ((2 : Int64) * sz.toInt64) (by have := own_sz2 h4; omega) (own_sz2 h4).2.1 (own_sz2 h4).2.2 P873
    by_cases hy : (4 : Int32) < (p3 &&& (2147483647 : Int32))
    · refine g_callS C (pc' := 42) (k' := 0) (n' := 0) (argsL := [(.int (4 : Int32)), (.int (p3 &&& (2147483647 : Int32)))]) (rest := []) (wd hw 1 rfl) (wd hw 2 rfl) (wd hw 3 rfl) (wd hw 4 rfl) (by decide) at_39 pd_0 rfl rfl rfl (max_lt l Z a0 hw n0 h O s_BEGIN s_VALUE H (p3 &&& (2147483647 : Int32)) hy) (Nat.le_of_ble_eq_true rfl) (Nat.le_of_ble_eq_true rfl) (Nat.le_of_ble_eq_true rfl) (Nat.le_of_ble_eq_true rfl) rfl rfl rfl (fun v880 h879 q881 => ?_)
      obtain ⟨rfl, eh879⟩ := q881
      subst h879
      show G w _ h 0 0 42 #[.val (.int p0), .val (.int p1), .val (.int p2), .val (.int p3), .val (.int p4), .val (.int p5), .val (.int p0.toInt8.toInt32), .val (.int p1.toInt8.toInt32), .val (.int p2.toInt8.toInt32), .val (.int (p5 &&& (3 : Int32))), .val (.int (1 : Int32)), .unset, .unset, .unset, .unset, .unset] [(.int (p3 &&& (2147483647 : Int32)))]
      exact J42 _ (own_le hy)
    · refine g_callS C (pc' := 42) (k' := 0) (n' := 0) (argsL := [(.int (4 : Int32)), (.int (p3 &&& (2147483647 : Int32)))]) (rest := []) (wd hw 1 rfl) (wd hw 2 rfl) (wd hw 3 rfl) (wd hw 4 rfl) (by decide) at_39 pd_0 rfl rfl rfl (max_ge l Z a0 hw n0 h O s_BEGIN s_VALUE H (p3 &&& (2147483647 : Int32)) hy) (Nat.le_of_ble_eq_true rfl) (Nat.le_of_ble_eq_true rfl) (Nat.le_of_ble_eq_true rfl) (Nat.le_of_ble_eq_true rfl) rfl rfl rfl (fun v883 h882 q884 => ?_)
      obtain ⟨rfl, eh882⟩ := q884
      subst h882
      show G w _ h 0 0 42 #[.val (.int p0), .val (.int p1), .val (.int p2), .val (.int p3), .val (.int p4), .val (.int p5), .val (.int p0.toInt8.toInt32), .val (.int p1.toInt8.toInt32), .val (.int p2.toInt8.toInt32), .val (.int (p5 &&& (3 : Int32))), .val (.int (1 : Int32)), .unset, .unset, .unset, .unset, .unset] [(.int (4 : Int32))]
      exact J42 _ (by decide)
set_option maxRecDepth 65536 in
set_option maxHeartbeats 40000000 in
theorem comes_1 {Post : Tables → Env → Array Value → State → Outcome → State → Prop} (hpost : ∀ tb e args s v u, (limb_1_1.after args s (.returned v) u = true ∧ limb_1_2.after args s (.returned v) u = true ∧ True) → FrameEnd s (.returned v) u (Jvm.fieldLocs frame_1_writes args s ++ Jvm.arrayLocs frame_1_arrays args s ++ Jvm.staticLocs frame_1_statics s) 24 192 → Post tb e args s (.returned v) u) :
    ArmFor flags0 classFile x code maxLocals ret World_1 tables_1 room_1 Calls_1 rest_1 Pre_1 Post := by
  intro l hfl _ _ p e ha hc hk s m args below hf hA hF happ hP
  obtain ⟨hcalls, hrest, hpre⟩ := hP
  obtain ⟨-, -, -, hnamed, -, -, -, hat⟩ := (Spec.applies_iff hf).mp happ
  obtain ⟨hg, hn⟩ := and_e (Cond.before_iff.mp (show (Jvm.Cond.and given_1 narrow_1).before args s = true from hpre))
  obtain ⟨hga, hgb⟩ := and_e hg
  obtain ⟨hgba, hgbb⟩ := and_e hgb
  obtain ⟨hgbba, hgbbb⟩ := and_e hgbb
  obtain ⟨hgbbba, hgbbbb⟩ := and_e hgbbb
  obtain ⟨hgbbbba, hgbbbbb⟩ := and_e hgbbbb
  obtain ⟨hgbbbbba, hgbbbbbb⟩ := and_e hgbbbbb
  obtain ⟨w0, w1, w2, w3, w4, w5, rfl⟩ : ∃ w0 w1 w2 w3 w4 w5 : Value, args = #[w0, w1, w2, w3, w4, w5] := by
    have hs : args.size = 6 := by simpa [Cond.value, given_1] using hga
    obtain ⟨L⟩ := args
    match L, hs with
    | [w0, w1, w2, w3, w4, w5], _ => exact ⟨w0, w1, w2, w3, w4, w5, rfl⟩
  have hw := fun d (hd : d ∈ tables_1) => atoms_spec (ws := Jvm.Cond.code x code maxLocals ret :: tables_1) hat d (List.mem_cons_of_mem _ hd)
  have hfit : Fit s := fun {y c} hc i hi => by
    obtain ⟨ha, rfl⟩ := Array.getElem?_eq_some_iff.mp hc
    have q := List.all_eq_true.mp ((Array.all_eq_true_iff_forall_mem.mp hF) _ (Array.getElem_mem ha)) i (List.mem_range.mpr hi)
    simpa [Array.getElem?_eq_getElem hi] using q
  obtain ⟨i0, ei0⟩ := is_v hgba
  obtain rfl : w0 = (.int i0) := Option.some.inj ei0
  obtain ⟨i1, ei1⟩ := is_v hgbba
  obtain rfl : w1 = (.int i1) := Option.some.inj ei1
  obtain ⟨i2, ei2⟩ := is_v hgbbba
  obtain rfl : w2 = (.int i2) := Option.some.inj ei2
  obtain ⟨i3, ei3⟩ := is_v hgbbbba
  obtain rfl : w3 = (.int i3) := Option.some.inj ei3
  obtain ⟨i4, ei4⟩ := is_v hgbbbbba
  obtain rfl : w4 = (.int i4) := Option.some.inj ei4
  obtain ⟨i5, ei5⟩ := is_v hgbbbbbb
  obtain rfl : w5 = (.int i5) := Option.some.inj ei5
  obtain ⟨hna, hnb⟩ := and_e hn
  obtain ⟨hnba, hnbb⟩ := and_e hnb
  obtain ⟨hnbba, hnbbb⟩ := and_e hnbb
  obtain ⟨s_BEGIN, ev_BEGIN⟩ := exa_v hna
  have S_BEGIN := Sta.start ev_BEGIN (Or.inr ⟨(wd hw 29 rfl), (wd hw 30 rfl)⟩)
  have E_BEGIN := Exa.start ev_BEGIN hna
  obtain ⟨s_VALUE, ev_VALUE⟩ := exa_v hnbba
  have S_VALUE := Sta.start ev_VALUE (Or.inr ⟨(wd hw 29 rfl), (wd hw 55 rfl)⟩)
  have E_VALUE := Exa.start ev_VALUE hnbba
  have F_BEGIN_ordinal := own_fldInt ev_BEGIN hnba
  have F_VALUE_ordinal := own_fldInt ev_VALUE hnbbb
  have H : En s s_BEGIN s_VALUE := ⟨S_BEGIN, E_BEGIN, S_VALUE, E_VALUE, F_BEGIN_ordinal, F_VALUE_ordinal⟩
  obtain ⟨n, o, h1, h2, h3, _, L, rfl, ⟨rfl, N⟩, hq⟩ := rm0 l s _ hw s.heap.size s.heap (Old.start s) s_BEGIN s_VALUE H i0 i1 i2 i3 i4 i5  tables_1 p e ha hc hk s m _ below hf ((Spec.applies_iff_loose hf).mp happ).1 ⟨rfl, State.Warmed39.refl s, rfl⟩ trivial
  refine ⟨n, _, h1, h2, h3, hpost _ _ _ _ _ _ ⟨Cond.after_iff.mpr rfl, Cond.after_iff.mpr (eq_i res_at (Term.int_eval (1)) rfl), trivial⟩ ⟨hq.1, hq.2.1, (hq.2.2.sift fun y hy => Or.inr (N y hy)).mono (by decide) (by decide)⟩⟩
theorem main_1_1 : Claimed_1_1 := comes_1 fun _ _ _ _ _ _ h hF => ⟨h.1, hF⟩
theorem main_1_2 : Claimed_1_2 := comes_1 fun _ _ _ _ _ _ h hF => ⟨h.2.1, hF⟩
end Jvm.Pilot.@@N@@
namespace Jvm.Pilot.@@N@@
open Jvm Jvm.ClassFile Sem Op Lib Jvm.Free Jvm.Stand Jvm.Pilot.@@N@@.Jvm.D
/-! MADE BY PROGRAM (witnessworld.py) out of the Statement's table words and the real class files: 18 classes; the members and pool entries that the words name. The judged class is class 1, her method 1. -/
namespace start1
open Jvm.ClassFile
def u (s : String) : CpInfo := .utf8 (stringToUtf16 s)
/-- a pool by its gaps: so many unusable entries, then the entry; so many at the end -/
def gap : Nat → List CpInfo → List CpInfo
  | 0, r => r
  | n + 1, r => .unusable :: gap n r
def poolList (es : List (Nat × CpInfo)) (last : Nat) : List CpInfo := es.foldr (fun e r => gap e.1 (e.2 :: r)) (gap last [])
def pool (es : List (Nat × CpInfo)) (last : Nat) : Array CpInfo := ⟨poolList es last⟩
def fileOf (pool : Array CpInfo) (this : Nat) (attrs : Array Attribute := #[]) (ms : Array MethodInfo := #[]) (fl : Nat := 33) (sup : Nat := 0) (ifs : Array Nat := #[]) (fds : Array FieldInfo := #[]) : ClassFile where
  minorVersion := 0
  majorVersion := 65
  constantPool := pool
  accessFlags := fl
  thisClass := this
  superClass := sup
  interfaces := ifs
  fields := fds
  methods := ms
  attributes := attrs
def plain (name : String) (sup : Option ClassId) : Class where
  name := name
  kind := .ordinary
  loader := none
  accessFlags := 33
  super := sup
  interfaces := #[]
  cf := none
  fields := #[]
  methods := #[]
  instanceTypes := #[]
  staticTypes := #[]
  resolved := #[]
  callSites := []
  init := .initialized
  statics := none
  mirror := none

def pool0 : Array CpInfo := pool [(5, u "<init>"), (0, u "()V"), (1, .class_ 10), (1, u "java/lang/Object")] 113

def k0c0 : Code := { maxStack := 0, maxLocals := 1, code := object_method_1_code, exceptionTable := #[], attributes := #[] }
def k0m0 : Method := { name := "<init>", desc := "()V", sig := { parameters := [], returnType := none }, accessFlags := 1, code := some k0c0 }
/-- java/lang/Object -/
def k0 : Class := { plain "java/lang/Object" none with
  accessFlags := 33
  interfaces := #[]
  cf := some (fileOf pool0 8 #[] #[{ accessFlags := 1, nameIndex := 5, descriptorIndex := 6, attributes := #[] }] 33 0 #[] #[])
  fields := #[]
  methods := #[k0m0]
  instanceTypes := #[]
  staticTypes := #[]
  resolved := Array.replicate 124 none
  statics := none }

def pool1 : Array CpInfo := pool [(2, .class_ 4), (0, .nameAndType 5 6), (0, u "java/lang/Object"), (0, u "<init>"), (0, u "()V"), (0, .integer 2147483647), (0, .methodref 9 10), (0, .class_ 11), (0, .nameAndType 12 13), (0, u "java/lang/Math"), (0, u "max"), (0, u "(II)I"), (2, .class_ 17), (0, u "com/example/strictwire/strictwire/EventOrder"), (0, .methodref 16 3), (0, .methodref 16 20), (0, .nameAndType 21 22), (0, u "openMap"), (0, u "(BBI)V"), (0, .methodref 16 24), (0, .nameAndType 25 6), (0, u "takeValue"), (0, .methodref 16 27), (0, .nameAndType 28 22), (0, u "openCollection"), (0, .methodref 16 30), (0, .nameAndType 31 32), (0, u "valueType"), (0, u "()B"), (0, .class_ 34), (0, u "com/example/strictwire/strictwire/EventOrderValueTypePinLaw"), (2, u "law"), (0, u "(IIIIII)Z")] 3

def k1m0 : Method := { name := "<init>", desc := "()V", sig := { parameters := [], returnType := none }, accessFlags := 1, code := none }
def k1c1 : Code := { maxStack := 4, maxLocals := 16, code := code, exceptionTable := #[], attributes := #[] }
def k1m1 : Method := { name := "law", desc := "(IIIIII)Z", sig := { parameters := [.int, .int, .int, .int, .int, .int], returnType := some .boolean }, accessFlags := 9, code := some k1c1 }
/-- com/example/strictwire/strictwire/EventOrderValueTypePinLaw -/
def k1 : Class := { plain "com/example/strictwire/strictwire/EventOrderValueTypePinLaw" (some 0) with
  accessFlags := 49
  interfaces := #[]
  cf := some (fileOf pool1 33 #[] #[{ accessFlags := 1, nameIndex := 5, descriptorIndex := 6, attributes := #[] }, { accessFlags := 9, nameIndex := 37, descriptorIndex := 38, attributes := #[] }] 49 2 #[] #[])
  fields := #[]
  methods := #[k1m0, k1m1]
  instanceTypes := #[]
  staticTypes := #[]
  resolved := Array.replicate 42 none
  statics := none }

def pool2 : Array CpInfo := pool [(1, .class_ 2), (0, u "java/lang/Math"), (1, .class_ 6), (1, u "java/lang/Object"), (0, u "<init>"), (0, u "()V"), (89, .class_ 100), (1, u "java/lang/Math$RandomNumberGeneratorHolder"), (71, u "negativeZeroFloatBits"), (0, u "J"), (2, u "negativeZeroDoubleBits"), (21, u "max"), (46, u "$assertionsDisabled"), (0, u "Z"), (88, u "(II)I"), (2, u "twoToTheDoubleScaleDown"), (0, u "D"), (4, u "twoToTheDoubleScaleUp"), (9, u "E"), (3, u "PI"), (2, u "TAU"), (2, u "DEGREES_TO_RADIANS"), (0, u "RADIANS_TO_DEGREES")] 94

def k2m0 : Method := { name := "<init>", desc := "()V", sig := { parameters := [], returnType := none }, accessFlags := 2, code := none }
def k2c1 : Code := { maxStack := 2, maxLocals := 2, code := jdk_29_method_65_code, exceptionTable := #[], attributes := #[] }
def k2m1 : Method := { name := "max", desc := "(II)I", sig := { parameters := [.int, .int], returnType := some .int }, accessFlags := 9, code := some k2c1 }
/-- java/lang/Math -/
def k2 : Class := { plain "java/lang/Math" (some 0) with
  accessFlags := 49
  interfaces := #[]
  cf := some (fileOf pool2 1 #[.nestMembers #[98]] #[{ accessFlags := 2, nameIndex := 7, descriptorIndex := 8, attributes := #[] }, { accessFlags := 9, nameIndex := 198, descriptorIndex := 335, attributes := #[] }] 49 4 #[] #[{ accessFlags := 25, nameIndex := 354, descriptorIndex := 339, attributes := #[] }, { accessFlags := 25, nameIndex := 358, descriptorIndex := 339, attributes := #[] }, { accessFlags := 25, nameIndex := 361, descriptorIndex := 339, attributes := #[] }, { accessFlags := 26, nameIndex := 364, descriptorIndex := 339, attributes := #[] }, { accessFlags := 26, nameIndex := 365, descriptorIndex := 339, attributes := #[] }, { accessFlags := 26, nameIndex := 172, descriptorIndex := 173, attributes := #[] }, { accessFlags := 26, nameIndex := 176, descriptorIndex := 173, attributes := #[] }, { accessFlags := 8, nameIndex := 344, descriptorIndex := 339, attributes := #[] }, { accessFlags := 8, nameIndex := 338, descriptorIndex := 339, attributes := #[] }, { accessFlags := 4120, nameIndex := 245, descriptorIndex := 246, attributes := #[] }])
  fields := #[{ name := "E", type := .double, accessFlags := 25, slot := 0, constantValue := 0 }, { name := "PI", type := .double, accessFlags := 25, slot := 1, constantValue := 0 }, { name := "TAU", type := .double, accessFlags := 25, slot := 2, constantValue := 0 }, { name := "DEGREES_TO_RADIANS", type := .double, accessFlags := 26, slot := 3, constantValue := 0 }, { name := "RADIANS_TO_DEGREES", type := .double, accessFlags := 26, slot := 4, constantValue := 0 }, { name := "negativeZeroFloatBits", type := .long, accessFlags := 26, slot := 5, constantValue := 0 }, { name := "negativeZeroDoubleBits", type := .long, accessFlags := 26, slot := 6, constantValue := 0 }, { name := "twoToTheDoubleScaleUp", type := .double, accessFlags := 8, slot := 7, constantValue := 0 }, { name := "twoToTheDoubleScaleDown", type := .double, accessFlags := 8, slot := 8, constantValue := 0 }, { name := "$assertionsDisabled", type := .boolean, accessFlags := 4120, slot := 9, constantValue := 0 }]
  methods := #[k2m0, k2m1]
  instanceTypes := #[]
  staticTypes := #[.double, .double, .double, .double, .double, .long, .long, .double, .double, .boolean]
  resolved := Array.replicate 460 none
  statics := none }

def pool3 : Array CpInfo := pool [(1, .methodref 2 3), (0, .class_ 4), (0, .nameAndType 5 6), (0, u "java/lang/Object"), (0, u "<init>"), (0, u "()V"), (0, .class_ 8), (0, u "com/example/strictwire/strictwire/EventOrder"), (0, .fieldref 7 10), (0, .nameAndType 11 12), (0, u "types"), (0, u "[B"), (0, .fieldref 7 14), (0, .nameAndType 15 12), (0, u "elementTypes"), (0, .fieldref 7 17), (0, .nameAndType 18 12), (0, u "valueTypes"), (0, .fieldref 7 20), (0, .nameAndType 21 22), (0, u "left"), (0, u "[J"), (0, .class_ 24), (0, u "com/example/strictwire/strictwire/FieldIds"), (0, .fieldref 7 26), (0, .nameAndType 27 28), (0, u "ids"), (0, u "[Lcom/example/strictwire/strictwire/FieldIds;"), (0, .fieldref 30 31), (0, .class_ 32), (0, .nameAndType 33 34), (0, u "com/example/strictwire/strictwire/EventOrder$Next"), (0, u "BEGIN"), (0, u "Lcom/example/strictwire/strictwire/EventOrder$Next;"), (0, .methodref 30 36), (0, .nameAndType 37 38), (0, u "ordinal"), (0, u "()I"), (0, .fieldref 7 40), (0, .nameAndType 41 42), (0, u "next"), (0, u "I"), (2, u "NEXT"), (0, u "[Lcom/example/strictwire/strictwire/EventOrder$Next;"), (0, .fieldref 7 48), (0, .nameAndType 49 42), (0, u "depth"), (5, .fieldref 30 56), (0, .nameAndType 57 34), (0, u "VALUE"), (5, u "begun"), (0, u "Z"), (2, u "message"), (2, u "complete"), (6, .long 2), (4, .methodref 7 83), (0, .nameAndType 84 85), (0, u "push"), (0, u "(BBBJ)I"), (31, u "FIRST_LEVELS"), (8, u "()B"), (0, u "valueType"), (1, u "openCollection"), (0, u "(BBI)V"), (0, u "openMap"), (1, u "takeValue")] 10

def k3c0 : Code := { maxStack := 2, maxLocals := 1, code := prog_6_method_1_code, exceptionTable := #[], attributes := #[] }
def k3m0 : Method := { name := "<init>", desc := "()V", sig := { parameters := [], returnType := none }, accessFlags := 0, code := some k3c0 }
def k3c1 : Code := { maxStack := 4, maxLocals := 3, code := prog_6_method_7_code, exceptionTable := #[], attributes := #[] }
def k3m1 : Method := { name := "valueType", desc := "()B", sig := { parameters := [], returnType := some .byte }, accessFlags := 0, code := some k3c1 }
def k3c2 : Code := { maxStack := 6, maxLocals := 4, code := prog_6_method_10_code, exceptionTable := #[], attributes := #[] }
def k3m2 : Method := { name := "openCollection", desc := "(BBI)V", sig := { parameters := [.byte, .byte, .int], returnType := none }, accessFlags := 0, code := some k3c2 }
def k3c3 : Code := { maxStack := 8, maxLocals := 4, code := prog_6_method_11_code, exceptionTable := #[], attributes := #[] }
def k3m3 : Method := { name := "openMap", desc := "(BBI)V", sig := { parameters := [.byte, .byte, .int], returnType := none }, accessFlags := 0, code := some k3c3 }
def k3c4 : Code := { maxStack := 6, maxLocals := 3, code := prog_6_method_13_code, exceptionTable := #[], attributes := #[] }
def k3m4 : Method := { name := "takeValue", desc := "()V", sig := { parameters := [], returnType := none }, accessFlags := 0, code := some k3c4 }
def k3c5 : Code := { maxStack := 5, maxLocals := 7, code := prog_6_method_17_code, exceptionTable := #[], attributes := #[] }
def k3m5 : Method := { name := "push", desc := "(BBBJ)I", sig := { parameters := [.byte, .byte, .byte, .long], returnType := some .int }, accessFlags := 2, code := some k3c5 }
/-- com/example/strictwire/strictwire/EventOrder -/
def k3 : Class := { plain "com/example/strictwire/strictwire/EventOrder" (some 0) with
  accessFlags := 48
  interfaces := #[]
  cf := some (fileOf pool3 7 #[.nestMembers #[30]] #[{ accessFlags := 0, nameIndex := 5, descriptorIndex := 6, attributes := #[] }, { accessFlags := 0, nameIndex := 127, descriptorIndex := 126, attributes := #[] }, { accessFlags := 0, nameIndex := 129, descriptorIndex := 130, attributes := #[] }, { accessFlags := 0, nameIndex := 131, descriptorIndex := 130, attributes := #[] }, { accessFlags := 0, nameIndex := 133, descriptorIndex := 6, attributes := #[] }, { accessFlags := 2, nameIndex := 84, descriptorIndex := 85, attributes := #[] }] 48 2 #[] #[{ accessFlags := 26, nameIndex := 45, descriptorIndex := 46, attributes := #[] }, { accessFlags := 26, nameIndex := 117, descriptorIndex := 42, attributes := #[] }, { accessFlags := 2, nameIndex := 11, descriptorIndex := 12, attributes := #[] }, { accessFlags := 2, nameIndex := 15, descriptorIndex := 12, attributes := #[] }, { accessFlags := 2, nameIndex := 18, descriptorIndex := 12, attributes := #[] }, { accessFlags := 2, nameIndex := 21, descriptorIndex := 22, attributes := #[] }, { accessFlags := 2, nameIndex := 27, descriptorIndex := 28, attributes := #[] }, { accessFlags := 2, nameIndex := 49, descriptorIndex := 42, attributes := #[] }, { accessFlags := 2, nameIndex := 63, descriptorIndex := 64, attributes := #[] }, { accessFlags := 2, nameIndex := 67, descriptorIndex := 64, attributes := #[] }, { accessFlags := 2, nameIndex := 70, descriptorIndex := 64, attributes := #[] }, { accessFlags := 2, nameIndex := 41, descriptorIndex := 42, attributes := #[] }])
  fields := #[{ name := "NEXT", type := (.array (.object "com/example/strictwire/strictwire/EventOrder$Next")), accessFlags := 26, slot := 0, constantValue := 0 }, { name := "FIRST_LEVELS", type := .int, accessFlags := 26, slot := 1, constantValue := 0 }, { name := "types", type := (.array .byte), accessFlags := 2, slot := 0, constantValue := 0 }, { name := "elementTypes", type := (.array .byte), accessFlags := 2, slot := 1, constantValue := 0 }, { name := "valueTypes", type := (.array .byte), accessFlags := 2, slot := 2, constantValue := 0 }, { name := "left", type := (.array .long), accessFlags := 2, slot := 3, constantValue := 0 }, { name := "ids", type := (.array (.object "com/example/strictwire/strictwire/FieldIds")), accessFlags := 2, slot := 4, constantValue := 0 }, { name := "depth", type := .int, accessFlags := 2, slot := 5, constantValue := 0 }, { name := "begun", type := .boolean, accessFlags := 2, slot := 6, constantValue := 0 }, { name := "message", type := .boolean, accessFlags := 2, slot := 7, constantValue := 0 }, { name := "complete", type := .boolean, accessFlags := 2, slot := 8, constantValue := 0 }, { name := "next", type := .int, accessFlags := 2, slot := 9, constantValue := 0 }]
  methods := #[k3m0, k3m1, k3m2, k3m3, k3m4, k3m5]
  instanceTypes := #[(.array .byte), (.array .byte), (.array .byte), (.array .long), (.array (.object "com/example/strictwire/strictwire/FieldIds")), .int, .boolean, .boolean, .boolean, .int]
  staticTypes := #[(.array (.object "com/example/strictwire/strictwire/EventOrder$Next")), .int]
  resolved := Array.replicate 144 none
  statics := none }

def pool4 : Array CpInfo := pool [(2, .class_ 4), (1, u "java/lang/Object"), (0, u "<init>"), (0, u "()V"), (7, .class_ 16), (1, u "com/example/strictwire/strictwire/FieldIds"), (0, u "small"), (0, u "J"), (6, u "count"), (0, u "I"), (2, u "slots"), (0, u "[I"), (21, u "FIRST_SLOTS"), (2, u "SPREAD")] 24

def k4m0 : Method := { name := "<init>", desc := "()V", sig := { parameters := [], returnType := none }, accessFlags := 1, code := none }
/-- com/example/strictwire/strictwire/FieldIds -/
def k4 : Class := { plain "com/example/strictwire/strictwire/FieldIds" (some 0) with
  accessFlags := 49
  interfaces := #[]
  cf := some (fileOf pool4 14 #[] #[{ accessFlags := 1, nameIndex := 5, descriptorIndex := 6, attributes := #[] }] 49 2 #[] #[{ accessFlags := 26, nameIndex := 52, descriptorIndex := 26, attributes := #[] }, { accessFlags := 26, nameIndex := 55, descriptorIndex := 26, attributes := #[] }, { accessFlags := 2, nameIndex := 17, descriptorIndex := 18, attributes := #[] }, { accessFlags := 2, nameIndex := 29, descriptorIndex := 30, attributes := #[] }, { accessFlags := 2, nameIndex := 25, descriptorIndex := 26, attributes := #[] }])
  fields := #[{ name := "FIRST_SLOTS", type := .int, accessFlags := 26, slot := 0, constantValue := 0 }, { name := "SPREAD", type := .int, accessFlags := 26, slot := 1, constantValue := 0 }, { name := "small", type := .long, accessFlags := 2, slot := 0, constantValue := 0 }, { name := "slots", type := (.array .int), accessFlags := 2, slot := 1, constantValue := 0 }, { name := "count", type := .int, accessFlags := 2, slot := 2, constantValue := 0 }]
  methods := #[k4m0]
  instanceTypes := #[.long, (.array .int), .int]
  staticTypes := #[.int, .int]
  resolved := Array.replicate 80 none
  statics := none }

def pool5 : Array CpInfo := pool [(1, .class_ 2), (0, u "java/lang/constant/Constable"), (0, .class_ 4), (0, u "java/lang/Object")] 6

/-- java/lang/constant/Constable -/
def k5 : Class := { plain "java/lang/constant/Constable" (some 0) with
  accessFlags := 1537
  interfaces := #[]
  cf := some (fileOf pool5 1 #[] #[] 1537 3 #[] #[])
  fields := #[]
  methods := #[]
  instanceTypes := #[]
  staticTypes := #[]
  resolved := Array.replicate 11 none
  statics := none }

def pool6 : Array CpInfo := pool [(1, .class_ 2), (0, u "java/lang/Comparable"), (0, .class_ 4), (0, u "java/lang/Object")] 7

/-- java/lang/Comparable -/
def k6 : Class := { plain "java/lang/Comparable" (some 0) with
  accessFlags := 1537
  interfaces := #[]
  cf := some (fileOf pool6 1 #[] #[] 1537 3 #[] #[])
  fields := #[]
  methods := #[]
  instanceTypes := #[]
  staticTypes := #[]
  resolved := Array.replicate 12 none
  statics := none }

def pool7 : Array CpInfo := pool [(1, .class_ 2), (0, u "java/io/Serializable"), (0, .class_ 4), (0, u "java/lang/Object")] 2

/-- java/io/Serializable -/
def k7 : Class := { plain "java/io/Serializable" (some 0) with
  accessFlags := 1537
  interfaces := #[]
  cf := some (fileOf pool7 1 #[] #[] 1537 3 #[] #[])
  fields := #[]
  methods := #[]
  instanceTypes := #[]
  staticTypes := #[]
  resolved := Array.replicate 7 none
  statics := none }

def pool8 : Array CpInfo := pool [(2, .class_ 4), (1, u "java/lang/Enum"), (0, u "name"), (0, u "Ljava/lang/String;"), (0, .fieldref 2 8), (0, .nameAndType 9 10), (0, u "ordinal"), (0, u "I"), (1, .class_ 14), (1, u "java/lang/Object"), (4, u "hash"), (86, .class_ 108), (1, u "java/lang/Enum$EnumDesc"), (2, .class_ 112), (0, u "java/lang/constant/Constable"), (0, .class_ 114), (0, u "java/lang/Comparable"), (0, .class_ 116), (0, u "java/io/Serializable"), (9, u "()I")] 77

def k8c0 : Code := { maxStack := 1, maxLocals := 1, code := jdk_37_method_2_code, exceptionTable := #[], attributes := #[] }
def k8m0 : Method := { name := "ordinal", desc := "()I", sig := { parameters := [], returnType := some .int }, accessFlags := 17, code := some k8c0 }
/-- java/lang/Enum -/
def k8 : Class := { plain "java/lang/Enum" (some 0) with
  accessFlags := 1057
  interfaces := #[5, 6, 7]
  cf := some (fileOf pool8 2 #[.nestMembers #[106]] #[{ accessFlags := 17, nameIndex := 9, descriptorIndex := 126, attributes := #[] }] 1057 12 #[111, 113, 115] #[{ accessFlags := 18, nameIndex := 5, descriptorIndex := 6, attributes := #[] }, { accessFlags := 18, nameIndex := 9, descriptorIndex := 10, attributes := #[] }, { accessFlags := 2, nameIndex := 19, descriptorIndex := 10, attributes := #[] }])
  fields := #[{ name := "name", type := (.object "java/lang/String"), accessFlags := 18, slot := 0, constantValue := 0 }, { name := "ordinal", type := .int, accessFlags := 18, slot := 1, constantValue := 0 }, { name := "hash", type := .int, accessFlags := 2, slot := 2, constantValue := 0 }]
  methods := #[k8m0]
  instanceTypes := #[(.object "java/lang/String"), .int, .int]
  staticTypes := #[]
  resolved := Array.replicate 204 none
  statics := none }

def pool9 : Array CpInfo := pool [(1, .class_ 2), (0, u "com/example/strictwire/strictwire/EventOrder$Next"), (2, u "BEGIN"), (0, u "Lcom/example/strictwire/strictwire/EventOrder$Next;"), (2, u "FIELD"), (2, u "VALUE"), (2, u "END"), (2, u "MESSAGE_END"), (2, u "NOTHING"), (2, u "$VALUES"), (0, u "[Lcom/example/strictwire/strictwire/EventOrder$Next;"), (6, .class_ 34), (1, u "java/lang/Enum"), (29, .class_ 65), (0, u "com/example/strictwire/strictwire/EventOrder")] 2

/-- com/example/strictwire/strictwire/EventOrder$Next -/
def k9 : Class := { plain "com/example/strictwire/strictwire/EventOrder$Next" (some 8) with
  accessFlags := 16432
  interfaces := #[]
  cf := some (fileOf pool9 1 #[.nestHost 64] #[] 16432 32 #[] #[{ accessFlags := 16409, nameIndex := 5, descriptorIndex := 6, attributes := #[] }, { accessFlags := 16409, nameIndex := 9, descriptorIndex := 6, attributes := #[] }, { accessFlags := 16409, nameIndex := 12, descriptorIndex := 6, attributes := #[] }, { accessFlags := 16409, nameIndex := 15, descriptorIndex := 6, attributes := #[] }, { accessFlags := 16409, nameIndex := 18, descriptorIndex := 6, attributes := #[] }, { accessFlags := 16409, nameIndex := 21, descriptorIndex := 6, attributes := #[] }, { accessFlags := 4122, nameIndex := 24, descriptorIndex := 25, attributes := #[] }])
  fields := #[{ name := "BEGIN", type := (.object "com/example/strictwire/strictwire/EventOrder$Next"), accessFlags := 16409, slot := 0, constantValue := 0 }, { name := "FIELD", type := (.object "com/example/strictwire/strictwire/EventOrder$Next"), accessFlags := 16409, slot := 1, constantValue := 0 }, { name := "VALUE", type := (.object "com/example/strictwire/strictwire/EventOrder$Next"), accessFlags := 16409, slot := 2, constantValue := 0 }, { name := "END", type := (.object "com/example/strictwire/strictwire/EventOrder$Next"), accessFlags := 16409, slot := 3, constantValue := 0 }, { name := "MESSAGE_END", type := (.object "com/example/strictwire/strictwire/EventOrder$Next"), accessFlags := 16409, slot := 4, constantValue := 0 }, { name := "NOTHING", type := (.object "com/example/strictwire/strictwire/EventOrder$Next"), accessFlags := 16409, slot := 5, constantValue := 0 }, { name := "$VALUES", type := (.array (.object "com/example/strictwire/strictwire/EventOrder$Next")), accessFlags := 4122, slot := 6, constantValue := 0 }]
  methods := #[]
  instanceTypes := #[(.object "java/lang/String"), .int, .int]
  staticTypes := #[(.object "com/example/strictwire/strictwire/EventOrder$Next"), (.object "com/example/strictwire/strictwire/EventOrder$Next"), (.object "com/example/strictwire/strictwire/EventOrder$Next"), (.object "com/example/strictwire/strictwire/EventOrder$Next"), (.object "com/example/strictwire/strictwire/EventOrder$Next"), (.object "com/example/strictwire/strictwire/EventOrder$Next"), (.array (.object "com/example/strictwire/strictwire/EventOrder$Next"))]
  resolved := Array.replicate 68 none
  statics := some 0 }

def pool10 : Array CpInfo := pool [(1, u "java/lang/Cloneable"), (0, .class_ 1), (0, u "java/lang/Object"), (0, .class_ 3)] 3

/-- java/lang/Cloneable -/
def k10 : Class := { plain "java/lang/Cloneable" (some 0) with
  accessFlags := 1537
  interfaces := #[]
  cf := some (fileOf pool10 2 #[] #[] 1537 4 #[] #[])
  fields := #[]
  methods := #[]
  instanceTypes := #[]
  staticTypes := #[]
  resolved := Array.replicate 8 none
  statics := none }

/-- the primitive byte -/
def k11 : Class := { plain "byte" none with kind := .primitive 'B', accessFlags := 0x411 }
/-- [B -/
def k12 : Class := { plain "[B" (some 0) with kind := .array 11 .byte, interfaces := #[10, 7], accessFlags := 1041 }

/-- the primitive int -/
def k13 : Class := { plain "int" none with kind := .primitive 'I', accessFlags := 0x411 }
/-- [I -/
def k14 : Class := { plain "[I" (some 0) with kind := .array 13 .int, interfaces := #[10, 7], accessFlags := 1041 }

/-- the primitive long -/
def k15 : Class := { plain "long" none with kind := .primitive 'J', accessFlags := 0x411 }
/-- [J -/
def k16 : Class := { plain "[J" (some 0) with kind := .array 15 .long, interfaces := #[10, 7], accessFlags := 1041 }

/-- [Lcom/example/strictwire/strictwire/FieldIds; -/
def k17 : Class := { plain "[Lcom/example/strictwire/strictwire/FieldIds;" (some 0) with kind := .array 4 (.object "com/example/strictwire/strictwire/FieldIds"), interfaces := #[10, 7], accessFlags := 1041 }

def heap : Heap := #[{ cls := 9, slots := #[.ref 1, .null, .ref 2, .null, .null, .null, .null], vm := .statics 9 },
  { cls := 9, slots := #[.null, .int 0, .int 0], vm := .none },
  { cls := 9, slots := #[.null, .int 2, .int 0], vm := .none }]
def classes : Array Class := #[k0, k1, k2, k3, k4, k5, k6, k7, k8, k9, k10, k11, k12, k13, k14, k15, k16, k17]
def interned : List (Array UInt16 × Addr) := []
def slotsUsed : Nat := 13
def theMethod : MethodId := ⟨1, 1⟩
def args0 : Array Value := #[.int 2, .int 5, .int 1, .int 1, .int 1, .int 9]
def aboutOver (below : List Frame) : State where
  vm := { classes := classes, interned := interned.toArray }
  heap := heap
  slotsUsed := slotsUsed
  threads := #[{ frames := .invoking theMethod args0 :: below }]
def below0 : List Frame := [.native { method := ⟨0, 0⟩, args := #[] }]
def about1 : State := aboutOver below0
def p0 : Program := .bare "" "" ""
def e0 : Env := launch0.env 0 0 0
theorem w_frames : about1.frames = Frame.invoking theMethod args0 :: below0 := rfl
set_option maxRecDepth 65536 in
theorem w_args : argsFit about1.vm theMethod args0 = true := by decide +kernel
set_option maxRecDepth 65536 in
theorem w_heap : heapFits about1 = true := by decide +kernel
set_option maxRecDepth 65536 in
theorem w_runnable : about1.curStatus? = some .runnable := by decide +kernel
set_option maxRecDepth 65536 in
theorem w_alone : about1.alone = true := by decide +kernel
set_option maxRecDepth 65536 in
theorem w_named : about1.methodNamed? x = some theMethod := by decide +kernel
set_option maxRecDepth 65536 in
theorem w_hears : about1.hears theMethod below0 = true := by decide +kernel
set_option maxRecDepth 65536 in
theorem w_ripe : about1.ripe theMethod args0 below0 = true := by decide +kernel
theorem w_running : about1.status = .running := rfl
set_option maxRecDepth 65536 in
theorem w_room : about1.hasRoom e0.platform room_1 = true :=
  launch0.hasRoom_least _ room_1 (by decide +kernel) (by decide +kernel) (by decide +kernel) (by decide +kernel) (by decide +kernel) (by decide +kernel)
theorem allAtoms_all (ts : List Jvm.Cond) (a : Array Jvm.Value) (st : Jvm.State) : (allAtoms ts).before a st = ts.all (fun c => c.before a st) := by
  induction ts with
  | nil => rfl
  | cons c t ih =>
    show (Jvm.Cond.and c (allAtoms t)).before a st = _
    rw [Jvm.Cond.before_and, ih, List.all_cons]
def words1 : List Jvm.Cond := Jvm.Cond.code x code maxLocals ret :: tables_1
/-- a 'code' word, met by the world's own term for the bytes: nothing is compared byte by byte -/
theorem code_word {y : MethodName} {bytes : ByteArray} {mx : Nat} {rt : Option FieldType} {a : Array Value} {s : State} {m : MethodId} {meth : Method} {c : Code} (h1 : s.methodNamed? y = some m) (h2 : s.vm.method? m = some meth) (h3 : meth.code = some c) (h4 : c.code = bytes)
    (h5 : (c.maxLocals == mx && c.exceptionTable.isEmpty && decide (c.maxStack ≤ mostOperands) && decide (meth.sig.returnType = rt) && !meth.locks && decide (parseMethodDescriptor y.desc = some meth.sig)) = true) : (Jvm.Cond.code y bytes mx rt).before a s = true := by
  simp only [Bool.and_eq_true, beq_iff_eq, Bool.not_eq_true', decide_eq_true_eq] at h5
  obtain ⟨⟨⟨⟨⟨g1, g2⟩, g3⟩, g4⟩, g5⟩, g6⟩ := h5
  simp [Cond.before, Cond.holds, Cond.value, h1, h2, h3, h4, g1, g2, g3, g4, g5, g6]
def isCode : Jvm.Cond → Bool
  | .code _ _ _ _ => true
  | _ => false
theorem all_split {L : List Jvm.Cond} {P : Jvm.Cond → Bool} (h1 : L.all (fun c => isCode c || P c) = true) (h2 : ∀ c ∈ L.filter isCode, P c = true) : L.all P = true := by
  refine List.all_eq_true.mpr fun c hc => ?_
  have h := List.all_eq_true.mp h1 c hc
  rcases Bool.eq_false_or_eq_true (isCode c) with hi | hi
  · exact h2 c (List.mem_filter.mpr ⟨hc, hi⟩)
  · simpa [hi] using h
set_option maxRecDepth 65536 in
theorem w_c0 : (Jvm.Cond.code x code maxLocals ret).before args0 about1 = true := code_word (m := ⟨1, 1⟩) (meth := k1m1) (c := k1c1) (by decide +kernel) rfl rfl rfl (by decide +kernel)
set_option maxRecDepth 65536 in
theorem w_c1 : (Jvm.Cond.code ({ cls := "java/lang/Math", name := "max", desc := "(II)I" } : Jvm.MethodName) jdk_29_method_65_code (2 : Nat) (Option.some Jvm.ClassFile.FieldType.int)).before args0 about1 = true := code_word (m := ⟨2, 1⟩) (meth := k2m1) (c := k2c1) (by decide +kernel) rfl rfl rfl (by decide +kernel)
set_option maxRecDepth 65536 in
theorem w_c2 : (Jvm.Cond.code ({ cls := "com/example/strictwire/strictwire/EventOrder", name := "<init>", desc := "()V" } : Jvm.MethodName) prog_6_method_1_code (1 : Nat) (Option.none : Option Jvm.ClassFile.FieldType)).before args0 about1 = true := code_word (m := ⟨3, 0⟩) (meth := k3m0) (c := k3c0) (by decide +kernel) rfl rfl rfl (by decide +kernel)
set_option maxRecDepth 65536 in
theorem w_c3 : (Jvm.Cond.code ({ cls := "java/lang/Object", name := "<init>", desc := "()V" } : Jvm.MethodName) object_method_1_code (1 : Nat) (Option.none : Option Jvm.ClassFile.FieldType)).before args0 about1 = true := code_word (m := ⟨0, 0⟩) (meth := k0m0) (c := k0c0) (by decide +kernel) rfl rfl rfl (by decide +kernel)
set_option maxRecDepth 65536 in
theorem w_c4 : (Jvm.Cond.code ({ cls := "java/lang/Enum", name := "ordinal", desc := "()I" } : Jvm.MethodName) jdk_37_method_2_code (1 : Nat) (Option.some Jvm.ClassFile.FieldType.int)).before args0 about1 = true := code_word (m := ⟨8, 0⟩) (meth := k8m0) (c := k8c0) (by decide +kernel) rfl rfl rfl (by decide +kernel)
set_option maxRecDepth 65536 in
theorem w_c5 : (Jvm.Cond.code ({ cls := "com/example/strictwire/strictwire/EventOrder", name := "openMap", desc := "(BBI)V" } : Jvm.MethodName) prog_6_method_11_code (4 : Nat) (Option.none : Option Jvm.ClassFile.FieldType)).before args0 about1 = true := code_word (m := ⟨3, 3⟩) (meth := k3m3) (c := k3c3) (by decide +kernel) rfl rfl rfl (by decide +kernel)
set_option maxRecDepth 65536 in
theorem w_c6 : (Jvm.Cond.code ({ cls := "com/example/strictwire/strictwire/EventOrder", name := "push", desc := "(BBBJ)I" } : Jvm.MethodName) prog_6_method_17_code (7 : Nat) (Option.some Jvm.ClassFile.FieldType.int)).before args0 about1 = true := code_word (m := ⟨3, 5⟩) (meth := k3m5) (c := k3c5) (by decide +kernel) rfl rfl rfl (by decide +kernel)
set_option maxRecDepth 65536 in
theorem w_c7 : (Jvm.Cond.code ({ cls := "com/example/strictwire/strictwire/EventOrder", name := "valueType", desc := "()B" } : Jvm.MethodName) prog_6_method_7_code (3 : Nat) (Option.some Jvm.ClassFile.FieldType.byte)).before args0 about1 = true := code_word (m := ⟨3, 1⟩) (meth := k3m1) (c := k3c1) (by decide +kernel) rfl rfl rfl (by decide +kernel)
set_option maxRecDepth 65536 in
theorem w_c8 : (Jvm.Cond.code ({ cls := "com/example/strictwire/strictwire/EventOrder", name := "openCollection", desc := "(BBI)V" } : Jvm.MethodName) prog_6_method_10_code (4 : Nat) (Option.none : Option Jvm.ClassFile.FieldType)).before args0 about1 = true := code_word (m := ⟨3, 2⟩) (meth := k3m2) (c := k3c2) (by decide +kernel) rfl rfl rfl (by decide +kernel)
set_option maxRecDepth 65536 in
theorem w_c9 : (Jvm.Cond.code ({ cls := "com/example/strictwire/strictwire/EventOrder", name := "takeValue", desc := "()V" } : Jvm.MethodName) prog_6_method_13_code (3 : Nat) (Option.none : Option Jvm.ClassFile.FieldType)).before args0 about1 = true := code_word (m := ⟨3, 4⟩) (meth := k3m4) (c := k3c4) (by decide +kernel) rfl rfl rfl (by decide +kernel)
def codes1 : List Jvm.Cond := [Jvm.Cond.code x code maxLocals ret, Jvm.Cond.code ({ cls := "java/lang/Math", name := "max", desc := "(II)I" } : Jvm.MethodName) jdk_29_method_65_code (2 : Nat) (Option.some Jvm.ClassFile.FieldType.int), Jvm.Cond.code ({ cls := "com/example/strictwire/strictwire/EventOrder", name := "<init>", desc := "()V" } : Jvm.MethodName) prog_6_method_1_code (1 : Nat) (Option.none : Option Jvm.ClassFile.FieldType), Jvm.Cond.code ({ cls := "java/lang/Object", name := "<init>", desc := "()V" } : Jvm.MethodName) object_method_1_code (1 : Nat) (Option.none : Option Jvm.ClassFile.FieldType), Jvm.Cond.code ({ cls := "java/lang/Enum", name := "ordinal", desc := "()I" } : Jvm.MethodName) jdk_37_method_2_code (1 : Nat) (Option.some Jvm.ClassFile.FieldType.int), Jvm.Cond.code ({ cls := "com/example/strictwire/strictwire/EventOrder", name := "openMap", desc := "(BBI)V" } : Jvm.MethodName) prog_6_method_11_code (4 : Nat) (Option.none : Option Jvm.ClassFile.FieldType), Jvm.Cond.code ({ cls := "com/example/strictwire/strictwire/EventOrder", name := "push", desc := "(BBBJ)I" } : Jvm.MethodName) prog_6_method_17_code (7 : Nat) (Option.some Jvm.ClassFile.FieldType.int), Jvm.Cond.code ({ cls := "com/example/strictwire/strictwire/EventOrder", name := "valueType", desc := "()B" } : Jvm.MethodName) prog_6_method_7_code (3 : Nat) (Option.some Jvm.ClassFile.FieldType.byte), Jvm.Cond.code ({ cls := "com/example/strictwire/strictwire/EventOrder", name := "openCollection", desc := "(BBI)V" } : Jvm.MethodName) prog_6_method_10_code (4 : Nat) (Option.none : Option Jvm.ClassFile.FieldType), Jvm.Cond.code ({ cls := "com/example/strictwire/strictwire/EventOrder", name := "takeValue", desc := "()V" } : Jvm.MethodName) prog_6_method_13_code (3 : Nat) (Option.none : Option Jvm.ClassFile.FieldType)]
set_option maxRecDepth 65536 in
theorem codes_eq : words1.filter isCode = codes1 := rfl
theorem w_codes : ∀ c ∈ words1.filter isCode, c.before args0 about1 = true := by
  rw [codes_eq]
  intro c hc
  simp only [codes1, List.mem_cons, List.not_mem_nil, or_false] at hc
  rcases hc with rfl | rfl | rfl | rfl | rfl | rfl | rfl | rfl | rfl | rfl
  · exact w_c0
  · exact w_c1
  · exact w_c2
  · exact w_c3
  · exact w_c4
  · exact w_c5
  · exact w_c6
  · exact w_c7
  · exact w_c8
  · exact w_c9
set_option maxRecDepth 65536 in
theorem w_t1 : (words1.take 24).all (fun c => isCode c || c.before args0 about1) = true := by decide +kernel
set_option maxRecDepth 65536 in
theorem w_t2 : ((words1.drop 24).take 24).all (fun c => isCode c || c.before args0 about1) = true := by decide +kernel
set_option maxRecDepth 65536 in
theorem w_t3 : ((words1.drop 24).drop 24).all (fun c => isCode c || c.before args0 about1) = true := by decide +kernel
theorem w_tables : (allAtoms (Jvm.Cond.code x code maxLocals ret :: tables_1)).before args0 about1 = true := by
  rw [allAtoms_all]
  show words1.all (fun c => c.before args0 about1) = true
  refine all_split ?_ w_codes
  rw [← List.take_append_drop 24 words1, List.all_append, w_t1, ← List.take_append_drop 24 (words1.drop 24), List.all_append, w_t2, w_t3]
  rfl
set_option maxRecDepth 65536 in
theorem w_case : (Jvm.Cond.and given_1 narrow_1).before args0 about1 = true := by decide +kernel
theorem w_applies : (headSpec (Jvm.Cond.code x code maxLocals ret :: tables_1) room_1).applies x e0.platform about1 = true :=
  (Spec.applies_iff w_frames).mpr ⟨w_running, w_runnable, w_alone, w_named, w_hears, w_ripe, w_room, w_tables⟩
theorem atStart : AtStart classFile x code maxLocals ret World_1 tables_1 room_1 Calls_1 rest_1 Pre_1 launch0 p0 e0 about1 theMethod args0 below0 :=
  ⟨lists_1, trivial, launch0.admits_env _ _ _, launch0.least_env, fairChoices_fair.cas, fairChoices_fair.clock, w_frames, w_args, w_heap, w_applies, trivial, trivial, w_case⟩
end start1
theorem witness_1 : WitnessClaimed_1 := ⟨start1.p0, start1.e0, start1.about1, start1.theMethod, start1.args0, start1.below0, start1.atStart⟩
end Jvm.Pilot.@@N@@
