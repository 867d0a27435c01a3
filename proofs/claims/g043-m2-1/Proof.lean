import JvmDerived
import JvmDerived.Pilot.@@N@@Statement
import JvmDerived.Pilot.@@N@@Code
set_option linter.unusedVariables false
set_option linter.unusedSimpArgs false
namespace Jvm.Pilot.@@N@@
open Jvm Jvm.ClassFile Sem Op Lib Jvm.Free Jvm.Stand Jvm.LawKit Jvm.RoadKit Bundle Jvm.Pilot.@@N@@.Jvm.D
/-! THE WALK, SAID FORWARD: `G w Q h k n pc Ls st` says: from every point of the walk `w` whose heap is h, with k cells and n slots made, standing at pc with the locals Ls and the stack st, the run ends in a return that meets Q. One law a step carries G from the next point back to this one. -/
abbrev Wk := Program × Launch × Env × Room × State × MethodId × Array Value × List Frame × Method × Code × Nat
abbrev Wk.p (w : Wk) : Program := w.1
abbrev Wk.l (w : Wk) : Launch := w.2.1
abbrev Wk.e (w : Wk) : Env := w.2.2.1
abbrev Wk.R (w : Wk) : Room := w.2.2.2.1
abbrev Wk.s (w : Wk) : State := w.2.2.2.2.1
abbrev Wk.m (w : Wk) : MethodId := w.2.2.2.2.2.1
abbrev Wk.args (w : Wk) : Array Value := w.2.2.2.2.2.2.1
abbrev Wk.below (w : Wk) : List Frame := w.2.2.2.2.2.2.2.1
abbrev Wk.meth (w : Wk) : Method := w.2.2.2.2.2.2.2.2.1
abbrev Wk.c (w : Wk) : Code := w.2.2.2.2.2.2.2.2.2.1
abbrev Wk.n0 (w : Wk) : Nat := w.2.2.2.2.2.2.2.2.2.2
def Cx (w : Wk) (l : Launch) (Z : State) (own : String) (bytes : ByteArray) (mx : Nat) (rt : Option FieldType) (nm : String) (rm : Room) (n0 : Nat) : Prop :=
  w.l = l ∧ w.p.tables.exec = Jvm.exec ∧ Z.Warmed39 w.s.vm ∧ w.c.code = bytes ∧ w.c.maxLocals = mx ∧ w.s.vm.findClass own = some w.m.cls ∧ w.meth.sig.returnType = rt ∧ w.meth.locks = false ∧ w.meth.name = nm ∧ w.R = rm ∧ w.n0 = n0
def Ends (w : Wk) (Q : Option Value → Heap → Prop) (A : State) : Prop :=
  ∃ s₂ o, Steps w.p.tables w.e w.below A s₂ ∧ s₂.status = .running ∧ Ended s₂ w.below o ∧ ∃ v L, o = .returned v ∧ (Q v s₂.heap ∧ Fr w.n0 L) ∧ FrameEnd w.s o s₂ L w.R.cells w.R.slots
def G (w : Wk) (Q : Option Value → Heap → Prop) (h : Heap) (k n pc : Nat) (Ls : Array Slot) (st : List Value) : Prop :=
  ∀ (T : State) (locs : List Loc), Stand w.p w.l w.e w.R w.s w.m w.args w.below w.meth w.c T locs k n → T.heap = h → Fr w.n0 locs → Ends w Q (T.setTop (mkF w.m pc Ls st))
def Con (l : Launch) (Z : State) (y : MethodName) (bytes : ByteArray) (mx : Nat) (rt : Option FieldType) (rm : Room) (as : Array Value) (h : Heap) (n0 : Nat) (Q : Option Value → Heap → Prop) : Prop :=
  ∀ ws, MetFree l y (head1 (Jvm.Cond.code y bytes mx rt :: ws) rm) (fun a U => a = as ∧ Z.Warmed39 U.vm ∧ U.heap = h) (fun _ _ _ _ _ => True) (fun _ U o U' => ∃ v L, o = .returned v ∧ (Q v U'.heap ∧ Fr n0 L) ∧ FrameEnd U o U' L rm.cells rm.slots)
def psh (v : Option Value) (st : List Value) : List Value := match v with | none => st | some x => x :: st
theorem psh_eq (v : Option Value) (st : List Value) : v.toList ++ st = psh v st := by cases v <;> rfl
section Gs
variable {w : Wk} {l : Launch} {Z : State} {own : String} {bytes : ByteArray} {mx : Nat} {rt : Option FieldType} {nm : String} {rm : Room} {n0 : Nat} {Q : Option Value → Heap → Prop} {h : Heap} {k n pc pc' : Nat} {Ls Ls' : Array Slot} {st rest : List Value} {a0 : Array Value} {t : FieldType} {k' n' : Nat}
theorem Con.mk {y : MethodName} {as : Array Value} (hp : plainFor y = true) (hef : ∀ m, entryFrame m as mx = mkF m 0 Ls []) (body : ∀ w : Wk, Cx w l Z y.cls bytes mx rt y.name rm n0 → G w Q h 0 0 0 Ls []) : Con l Z y bytes mx rt rm as h n0 Q := by
  intro ws
  refine MetFree.of_bodySF hp hisR ?_
  intro p e s m args below meth c s₁ Bd hml0 hP hK
  obtain ⟨rfl, hZ, hh⟩ := hP
  have X0 : Stand p l e rm s m args below meth c s₁ [] 0 0 := Stand.of_body Bd
  have e0 : s₁.heap = h := by rw [← hh, Bd.state]; rfl
  obtain ⟨s₂, o, h1, h2, h3, h4⟩ := body (p, l, e, rm, s, m, args, below, meth, c, n0) ⟨rfl, Bd.exec, hZ, Bd.bytes, hml0, findClass_of_methodNamed Bd.named, Bd.returns, Bd.notSynchronized, (name_of_methodNamed Bd.named Bd.method).1, rfl, rfl⟩ s₁ [] X0 e0 (Fr.nil n0)
  exact ⟨s₂, o, castTop (hef m) h1, h2, h3, h4⟩
theorem Cx.ex (C : Cx w l Z own bytes mx rt nm rm n0) : w.p.tables.exec = Jvm.exec := C.2.1
theorem Cx.hZ (C : Cx w l Z own bytes mx rt nm rm n0) : Z.Warmed39 w.s.vm := C.2.2.1
theorem Cx.dec (C : Cx w l Z own bytes mx rt nm rm n0) {r : Except DecodeError (Instr × Nat)} (hd : decode bytes pc = r) : decode w.c.code pc = r := hb C.2.2.2.1 hd
theorem Cx.ow (C : Cx w l Z own bytes mx rt nm rm n0) : w.s.vm.findClass own = some w.m.cls := C.2.2.2.2.2.1
theorem Cx.ml (C : Cx w l Z own bytes mx rt nm rm n0) : w.c.maxLocals = mx := C.2.2.2.2.1
theorem Cx.ret (C : Cx w l Z own bytes mx rt nm rm n0) : w.meth.sig.returnType = rt := C.2.2.2.2.2.2.1
theorem Cx.lk (C : Cx w l Z own bytes mx rt nm rm n0) : w.meth.locks = false := C.2.2.2.2.2.2.2.1
theorem Cx.mn (C : Cx w l Z own bytes mx rt nm rm n0) : w.meth.name = nm := C.2.2.2.2.2.2.2.2.1
theorem Cx.ro (C : Cx w l Z own bytes mx rt nm rm n0) : w.R = rm := C.2.2.2.2.2.2.2.2.2.1
theorem Cx.nn (C : Cx w l Z own bytes mx rt nm rm n0) : w.n0 = n0 := C.2.2.2.2.2.2.2.2.2.2
theorem G.adv (st' : ∀ T locs, Stand w.p w.l w.e w.R w.s w.m w.args w.below w.meth w.c T locs k n → T.heap = h → ∀ t, Steps w.p.tables w.e w.below (T.setTop (mkF w.m pc' Ls' rest)) t → Steps w.p.tables w.e w.below (T.setTop (mkF w.m pc Ls st)) t) (g : G w Q h k n pc' Ls' rest) : G w Q h k n pc Ls st :=
  fun T locs X eT N => let ⟨s₂, o, h1, h2⟩ := g T locs X eT N; ⟨s₂, o, st' T locs X eT _ h1, h2⟩
theorem G.to {T T' : State} {locs' : List Loc} {h' : Heap} {k' n' : Nat} (X' : Stand w.p w.l w.e w.R w.s w.m w.args w.below w.meth w.c T' locs' k' n') (eT : T'.heap = h') (N : Fr w.n0 locs') (s' : ∀ t, Steps w.p.tables w.e w.below (T'.setTop (mkF w.m pc' Ls' rest)) t → Steps w.p.tables w.e w.below (T.setTop (mkF w.m pc Ls st)) t) (g : G w Q h' k' n' pc' Ls' rest) : Ends w Q (T.setTop (mkF w.m pc Ls st)) :=
  let ⟨s₂, o, h1, h2⟩ := g T' locs' X' eT N; ⟨s₂, o, s' _ h1, h2⟩
theorem G.more (hk : k ≤ k') (hn : n ≤ n') (g : G w Q h k' n' pc Ls st) : G w Q h k n pc Ls st := fun T locs X eT N => g T locs (X.more hk hn) eT N
/-! plain steps -/
theorem g_aloadN (C : Cx w l Z own bytes mx rt nm rm n0) {i : Fin 4} {v : Value} (hd : decode bytes pc = .ok (.aload_n i, 1)) (hl : Ls[i.val]? = some (.val v)) (hv : v.isRef = true) (hp : pc + 1 = pc') (g : G w Q h k n pc' Ls (v :: st)) : G w Q h k n pc Ls st := by
  subst hp; exact g.adv fun T locs X _ t r => XS.aloadN X.here C.ex rfl (C.dec hd) hl hv r
theorem g_aload (C : Cx w l Z own bytes mx rt nm rm n0) {i : Nat} {v : Value} (hd : decode bytes pc = .ok (.aload i, 2)) (hl : Ls[i]? = some (.val v)) (hv : v.isRef = true) (hp : pc + 2 = pc') (g : G w Q h k n pc' Ls (v :: st)) : G w Q h k n pc Ls st := by
  subst hp; exact g.adv fun T locs X _ t r => XS.aload X.here C.ex rfl (C.dec hd) hl hv r
theorem g_iloadN (C : Cx w l Z own bytes mx rt nm rm n0) {i : Fin 4} {v : Int32} (hd : decode bytes pc = .ok (.iload_n i, 1)) (hl : Ls[i.val]? = some (.val (.int v))) (hp : pc + 1 = pc') (g : G w Q h k n pc' Ls (.int v :: st)) : G w Q h k n pc Ls st := by
  subst hp; exact g.adv fun T locs X _ t r => XS.iloadN X.here C.ex rfl (C.dec hd) hl r
theorem g_iload (C : Cx w l Z own bytes mx rt nm rm n0) {i : Nat} {v : Int32} (hd : decode bytes pc = .ok (.iload i, 2)) (hl : Ls[i]? = some (.val (.int v))) (hp : pc + 2 = pc') (g : G w Q h k n pc' Ls (.int v :: st)) : G w Q h k n pc Ls st := by
  subst hp; exact g.adv fun T locs X _ t r => XS.iload X.here C.ex rfl (C.dec hd) hl r
theorem g_lloadN (C : Cx w l Z own bytes mx rt nm rm n0) {i : Fin 4} {v : Int64} (hd : decode bytes pc = .ok (.lload_n i, 1)) (hl : Ls[i.val]? = some (.val (.long v))) (hp : pc + 1 = pc') (g : G w Q h k n pc' Ls (.long v :: st)) : G w Q h k n pc Ls st := by
  subst hp; exact g.adv fun T locs X _ t r => XS.lloadN X.here C.ex rfl (C.dec hd) hl r
theorem g_lload (C : Cx w l Z own bytes mx rt nm rm n0) {i : Nat} {v : Int64} (hd : decode bytes pc = .ok (.lload i, 2)) (hl : Ls[i]? = some (.val (.long v))) (hp : pc + 2 = pc') (g : G w Q h k n pc' Ls (.long v :: st)) : G w Q h k n pc Ls st := by
  subst hp; exact g.adv fun T locs X _ t r => XS.lload X.here C.ex rfl (C.dec hd) hl r
theorem g_istoreN (C : Cx w l Z own bytes mx rt nm rm n0) {i : Fin 4} {x : Int32} (hd : decode bytes pc = .ok (.istore_n i, 1)) (hs : st = .int x :: rest) (hl : storeLocals Ls i.val (.int x) = some Ls') (hp : pc + 1 = pc') (g : G w Q h k n pc' Ls' rest) : G w Q h k n pc Ls st := by
  subst hp; exact g.adv fun T locs X _ t r => XS.istoreN X.here C.ex rfl (C.dec hd) hs hl r
theorem g_istore (C : Cx w l Z own bytes mx rt nm rm n0) {i : Nat} {x : Int32} (hd : decode bytes pc = .ok (.istore i, 2)) (hs : st = .int x :: rest) (hl : storeLocals Ls i (.int x) = some Ls') (hp : pc + 2 = pc') (g : G w Q h k n pc' Ls' rest) : G w Q h k n pc Ls st := by
  subst hp; exact g.adv fun T locs X _ t r => XS.istore X.here C.ex rfl (C.dec hd) hs hl r
theorem g_lstoreN (C : Cx w l Z own bytes mx rt nm rm n0) {i : Fin 4} {x : Int64} (hd : decode bytes pc = .ok (.lstore_n i, 1)) (hs : st = .long x :: rest) (hl : storeLocals Ls i.val (.long x) = some Ls') (hp : pc + 1 = pc') (g : G w Q h k n pc' Ls' rest) : G w Q h k n pc Ls st := by
  subst hp; exact g.adv fun T locs X _ t r => XS.lstoreN X.here C.ex rfl (C.dec hd) hs hl r
theorem g_lstore (C : Cx w l Z own bytes mx rt nm rm n0) {i : Nat} {x : Int64} (hd : decode bytes pc = .ok (.lstore i, 2)) (hs : st = .long x :: rest) (hl : storeLocals Ls i (.long x) = some Ls') (hp : pc + 2 = pc') (g : G w Q h k n pc' Ls' rest) : G w Q h k n pc Ls st := by
  subst hp; exact g.adv fun T locs X _ t r => XS.lstore X.here C.ex rfl (C.dec hd) hs hl r
theorem g_astoreN (C : Cx w l Z own bytes mx rt nm rm n0) {i : Fin 4} {x : Value} (hd : decode bytes pc = .ok (.astore_n i, 1)) (hs : st = x :: rest) (hv : x.isRef = true) (hl : storeLocals Ls i.val x = some Ls') (hp : pc + 1 = pc') (g : G w Q h k n pc' Ls' rest) : G w Q h k n pc Ls st := by
  subst hp; exact g.adv fun T locs X _ t r => XS.astoreN X.here C.ex rfl (C.dec hd) hs hv hl r
theorem g_astore (C : Cx w l Z own bytes mx rt nm rm n0) {i : Nat} {x : Value} (hd : decode bytes pc = .ok (.astore i, 2)) (hs : st = x :: rest) (hv : x.isRef = true) (hl : storeLocals Ls i x = some Ls') (hp : pc + 2 = pc') (g : G w Q h k n pc' Ls' rest) : G w Q h k n pc Ls st := by
  subst hp; exact g.adv fun T locs X _ t r => XS.astore X.here C.ex rfl (C.dec hd) hs hv hl r
theorem g_iinc (C : Cx w l Z own bytes mx rt nm rm n0) {i : Nat} {cst : Int} {x : Int32} (hd : decode bytes pc = .ok (.iinc i cst, 3)) (hl : Ls[i]? = some (.val (.int x))) (hl' : storeLocals Ls i (.int (x + Int32.ofInt cst)) = some Ls') (hp : pc + 3 = pc') (g : G w Q h k n pc' Ls' st) : G w Q h k n pc Ls st := by
  subst hp; exact g.adv fun T locs X _ t r => XS.iinc X.here C.ex rfl (C.dec hd) hl hl' r
theorem g_iconst (C : Cx w l Z own bytes mx rt nm rm n0) {i : Int} {v : Int32} (hd : decode bytes pc = .ok (.iconst i, 1)) (hv : Int32.ofInt i = v) (hp : pc + 1 = pc') (g : G w Q h k n pc' Ls (.int v :: st)) : G w Q h k n pc Ls st := by
  subst hp hv; exact g.adv fun T locs X _ t r => XS.iconst X.here C.ex rfl (C.dec hd) r
theorem g_bipush (C : Cx w l Z own bytes mx rt nm rm n0) {i : Int} {v : Int32} (hd : decode bytes pc = .ok (.bipush i, 2)) (hv : (Int8.ofInt i).toInt32 = v) (hp : pc + 2 = pc') (g : G w Q h k n pc' Ls (.int v :: st)) : G w Q h k n pc Ls st := by
  subst hp hv; exact g.adv fun T locs X _ t r => XS.bipush X.here C.ex rfl (C.dec hd) r
theorem g_sipush (C : Cx w l Z own bytes mx rt nm rm n0) {i : Int} {v : Int32} (hd : decode bytes pc = .ok (.sipush i, 3)) (hv : (Int16.ofInt i).toInt32 = v) (hp : pc + 3 = pc') (g : G w Q h k n pc' Ls (.int v :: st)) : G w Q h k n pc Ls st := by
  subst hp hv; exact g.adv fun T locs X _ t r => XS.sipush X.here C.ex rfl (C.dec hd) r
theorem g_lconst (C : Cx w l Z own bytes mx rt nm rm n0) {i : Fin 2} {v : Int64} (hd : decode bytes pc = .ok (.lconst i, 1)) (hv : Int64.ofNat i.val = v) (hp : pc + 1 = pc') (g : G w Q h k n pc' Ls (.long v :: st)) : G w Q h k n pc Ls st := by
  subst hp hv; exact g.adv fun T locs X _ t r => XS.lconst X.here C.ex rfl (C.dec hd) r
theorem g_aconstNull (C : Cx w l Z own bytes mx rt nm rm n0) (hd : decode bytes pc = .ok (.aconst_null, 1)) (hp : pc + 1 = pc') (g : G w Q h k n pc' Ls (.null :: st)) : G w Q h k n pc Ls st := by
  subst hp; exact g.adv fun T locs X _ t r => XS.aconstNull X.here C.ex rfl (C.dec hd) r
theorem g_ldcInt (C : Cx w l Z own bytes mx rt nm rm n0) {i : Nat} {v : Int32} (hw : (Jvm.Cond.constant own i v).before a0 Z = true) (hd : decode bytes pc = .ok (.ldc i, 2)) (hp : pc + 2 = pc') (g : G w Q h k n pc' Ls (.int v :: st)) : G w Q h k n pc Ls st := by
  subst hp; exact g.adv fun T locs X _ t r => X.ldcInt C.ex C.ow (mvT C.hZ hw) (g := mkF w.m pc Ls st) rfl (C.dec hd) t r
theorem g_ldc2Long (C : Cx w l Z own bytes mx rt nm rm n0) {i : Nat} {v : Int64} (hw : (Jvm.Cond.constantLong own i v).before a0 Z = true) (hd : decode bytes pc = .ok (.ldc2_w i, 3)) (hp : pc + 3 = pc') (g : G w Q h k n pc' Ls (.long v :: st)) : G w Q h k n pc Ls st := by
  subst hp; exact g.adv fun T locs X _ t r => X.ldc2Long C.ex C.ow (mvT C.hZ hw) (g := mkF w.m pc Ls st) rfl (C.dec hd) t r
theorem g_iadd (C : Cx w l Z own bytes mx rt nm rm n0) {x y : Int32} (hd : decode bytes pc = .ok (.iadd, 1)) (hs : st = .int y :: .int x :: rest) (hp : pc + 1 = pc') (g : G w Q h k n pc' Ls (.int (x + y) :: rest)) : G w Q h k n pc Ls st := by
  subst hp; exact g.adv fun T locs X _ t r => XS.iadd X.here C.ex rfl (C.dec hd) hs r
theorem g_isub (C : Cx w l Z own bytes mx rt nm rm n0) {x y : Int32} (hd : decode bytes pc = .ok (.isub, 1)) (hs : st = .int y :: .int x :: rest) (hp : pc + 1 = pc') (g : G w Q h k n pc' Ls (.int (x - y) :: rest)) : G w Q h k n pc Ls st := by
  subst hp; exact g.adv fun T locs X _ t r => XS.isub X.here C.ex rfl (C.dec hd) hs r
theorem g_imul (C : Cx w l Z own bytes mx rt nm rm n0) {x y : Int32} (hd : decode bytes pc = .ok (.imul, 1)) (hs : st = .int y :: .int x :: rest) (hp : pc + 1 = pc') (g : G w Q h k n pc' Ls (.int (x * y) :: rest)) : G w Q h k n pc Ls st := by
  subst hp; exact g.adv fun T locs X _ t r => XS.imul X.here C.ex rfl (C.dec hd) hs r
theorem g_iand (C : Cx w l Z own bytes mx rt nm rm n0) {x y : Int32} (hd : decode bytes pc = .ok (.iand, 1)) (hs : st = .int y :: .int x :: rest) (hp : pc + 1 = pc') (g : G w Q h k n pc' Ls (.int (x &&& y) :: rest)) : G w Q h k n pc Ls st := by
  subst hp; exact g.adv fun T locs X _ t r => XS.iand X.here C.ex rfl (C.dec hd) hs r
theorem g_ior (C : Cx w l Z own bytes mx rt nm rm n0) {x y : Int32} (hd : decode bytes pc = .ok (.ior, 1)) (hs : st = .int y :: .int x :: rest) (hp : pc + 1 = pc') (g : G w Q h k n pc' Ls (.int (x ||| y) :: rest)) : G w Q h k n pc Ls st := by
  subst hp; exact g.adv fun T locs X _ t r => XS.ior X.here C.ex rfl (C.dec hd) hs r
theorem g_ixor (C : Cx w l Z own bytes mx rt nm rm n0) {x y : Int32} (hd : decode bytes pc = .ok (.ixor, 1)) (hs : st = .int y :: .int x :: rest) (hp : pc + 1 = pc') (g : G w Q h k n pc' Ls (.int (x ^^^ y) :: rest)) : G w Q h k n pc Ls st := by
  subst hp; exact g.adv fun T locs X _ t r => XS.ixor X.here C.ex rfl (C.dec hd) hs r
theorem g_ladd (C : Cx w l Z own bytes mx rt nm rm n0) {x y : Int64} (hd : decode bytes pc = .ok (.ladd, 1)) (hs : st = .long y :: .long x :: rest) (hp : pc + 1 = pc') (g : G w Q h k n pc' Ls (.long (x + y) :: rest)) : G w Q h k n pc Ls st := by
  subst hp; exact g.adv fun T locs X _ t r => XS.ladd X.here C.ex rfl (C.dec hd) hs r
theorem g_lsub (C : Cx w l Z own bytes mx rt nm rm n0) {x y : Int64} (hd : decode bytes pc = .ok (.lsub, 1)) (hs : st = .long y :: .long x :: rest) (hp : pc + 1 = pc') (g : G w Q h k n pc' Ls (.long (x - y) :: rest)) : G w Q h k n pc Ls st := by
  subst hp; exact g.adv fun T locs X _ t r => XS.lsub X.here C.ex rfl (C.dec hd) hs r
theorem g_lmul (C : Cx w l Z own bytes mx rt nm rm n0) {x y : Int64} (hd : decode bytes pc = .ok (.lmul, 1)) (hs : st = .long y :: .long x :: rest) (hp : pc + 1 = pc') (g : G w Q h k n pc' Ls (.long (x * y) :: rest)) : G w Q h k n pc Ls st := by
  subst hp; exact g.adv fun T locs X _ t r => XS.lmul X.here C.ex rfl (C.dec hd) hs r
theorem g_land (C : Cx w l Z own bytes mx rt nm rm n0) {x y : Int64} (hd : decode bytes pc = .ok (.land, 1)) (hs : st = .long y :: .long x :: rest) (hp : pc + 1 = pc') (g : G w Q h k n pc' Ls (.long (x &&& y) :: rest)) : G w Q h k n pc Ls st := by
  subst hp; exact g.adv fun T locs X _ t r => XS.land X.here C.ex rfl (C.dec hd) hs r
theorem g_lor (C : Cx w l Z own bytes mx rt nm rm n0) {x y : Int64} (hd : decode bytes pc = .ok (.lor, 1)) (hs : st = .long y :: .long x :: rest) (hp : pc + 1 = pc') (g : G w Q h k n pc' Ls (.long (x ||| y) :: rest)) : G w Q h k n pc Ls st := by
  subst hp; exact g.adv fun T locs X _ t r => XS.lor X.here C.ex rfl (C.dec hd) hs r
theorem g_lxor (C : Cx w l Z own bytes mx rt nm rm n0) {x y : Int64} (hd : decode bytes pc = .ok (.lxor, 1)) (hs : st = .long y :: .long x :: rest) (hp : pc + 1 = pc') (g : G w Q h k n pc' Ls (.long (x ^^^ y) :: rest)) : G w Q h k n pc Ls st := by
  subst hp; exact g.adv fun T locs X _ t r => XS.lxor X.here C.ex rfl (C.dec hd) hs r
theorem g_ishl (C : Cx w l Z own bytes mx rt nm rm n0) {x y : Int32} (hd : decode bytes pc = .ok (.ishl, 1)) (hs : st = .int y :: .int x :: rest) (hp : pc + 1 = pc') (g : G w Q h k n pc' Ls (.int (x <<< (y &&& 31)) :: rest)) : G w Q h k n pc Ls st := by
  subst hp; exact g.adv fun T locs X _ t r => XS.ishl X.here C.ex rfl (C.dec hd) hs r
theorem g_ishr (C : Cx w l Z own bytes mx rt nm rm n0) {x y : Int32} (hd : decode bytes pc = .ok (.ishr, 1)) (hs : st = .int y :: .int x :: rest) (hp : pc + 1 = pc') (g : G w Q h k n pc' Ls (.int (x >>> (y &&& 31)) :: rest)) : G w Q h k n pc Ls st := by
  subst hp; exact g.adv fun T locs X _ t r => XS.ishr X.here C.ex rfl (C.dec hd) hs r
theorem g_iushr (C : Cx w l Z own bytes mx rt nm rm n0) {x y : Int32} (hd : decode bytes pc = .ok (.iushr, 1)) (hs : st = .int y :: .int x :: rest) (hp : pc + 1 = pc') (g : G w Q h k n pc' Ls (.int ((x.toUInt32 >>> (y &&& 31).toUInt32).toInt32) :: rest)) : G w Q h k n pc Ls st := by
  subst hp; exact g.adv fun T locs X _ t r => XS.iushr X.here C.ex rfl (C.dec hd) hs r
theorem g_ineg (C : Cx w l Z own bytes mx rt nm rm n0) {x : Int32} (hd : decode bytes pc = .ok (.ineg, 1)) (hs : st = .int x :: rest) (hp : pc + 1 = pc') (g : G w Q h k n pc' Ls (.int (-x) :: rest)) : G w Q h k n pc Ls st := by
  subst hp; exact g.adv fun T locs X _ t r => XS.ineg X.here C.ex rfl (C.dec hd) hs r
theorem g_lneg (C : Cx w l Z own bytes mx rt nm rm n0) {x : Int64} (hd : decode bytes pc = .ok (.lneg, 1)) (hs : st = .long x :: rest) (hp : pc + 1 = pc') (g : G w Q h k n pc' Ls (.long (-x) :: rest)) : G w Q h k n pc Ls st := by
  subst hp; exact g.adv fun T locs X _ t r => XS.lneg X.here C.ex rfl (C.dec hd) hs r
theorem g_i2l (C : Cx w l Z own bytes mx rt nm rm n0) {x : Int32} (hd : decode bytes pc = .ok (.i2l, 1)) (hs : st = .int x :: rest) (hp : pc + 1 = pc') (g : G w Q h k n pc' Ls (.long x.toInt64 :: rest)) : G w Q h k n pc Ls st := by
  subst hp; exact g.adv fun T locs X _ t r => XS.i2l X.here C.ex rfl (C.dec hd) hs r
theorem g_l2i (C : Cx w l Z own bytes mx rt nm rm n0) {x : Int64} (hd : decode bytes pc = .ok (.l2i, 1)) (hs : st = .long x :: rest) (hp : pc + 1 = pc') (g : G w Q h k n pc' Ls (.int x.toInt32 :: rest)) : G w Q h k n pc Ls st := by
  subst hp; exact g.adv fun T locs X _ t r => XS.l2i X.here C.ex rfl (C.dec hd) hs r
theorem g_i2b (C : Cx w l Z own bytes mx rt nm rm n0) {x : Int32} (hd : decode bytes pc = .ok (.i2b, 1)) (hs : st = .int x :: rest) (hp : pc + 1 = pc') (g : G w Q h k n pc' Ls (.int x.toInt8.toInt32 :: rest)) : G w Q h k n pc Ls st := by
  subst hp; exact g.adv fun T locs X _ t r => XS.i2b X.here C.ex rfl (C.dec hd) hs r
theorem g_i2s (C : Cx w l Z own bytes mx rt nm rm n0) {x : Int32} (hd : decode bytes pc = .ok (.i2s, 1)) (hs : st = .int x :: rest) (hp : pc + 1 = pc') (g : G w Q h k n pc' Ls (.int x.toInt16.toInt32 :: rest)) : G w Q h k n pc Ls st := by
  subst hp; exact g.adv fun T locs X _ t r => XS.i2s X.here C.ex rfl (C.dec hd) hs r
theorem g_i2c (C : Cx w l Z own bytes mx rt nm rm n0) {x : Int32} (hd : decode bytes pc = .ok (.i2c, 1)) (hs : st = .int x :: rest) (hp : pc + 1 = pc') (g : G w Q h k n pc' Ls (.int x.toUInt32.toUInt16.toUInt32.toInt32 :: rest)) : G w Q h k n pc Ls st := by
  subst hp; exact g.adv fun T locs X _ t r => XS.i2c X.here C.ex rfl (C.dec hd) hs r
theorem g_irem (C : Cx w l Z own bytes mx rt nm rm n0) {x y : Int32} (hd : decode bytes pc = .ok (.irem, 1)) (hs : st = .int y :: .int x :: rest) (hy : y ≠ 0) (hp : pc + 1 = pc') (g : G w Q h k n pc' Ls (.int (x % y) :: rest)) : G w Q h k n pc Ls st := by
  subst hp; exact g.adv fun T locs X _ t r => iremM (g := mkF w.m pc Ls st) X C.ex rfl (C.dec hd) hs hy r
theorem g_idiv (C : Cx w l Z own bytes mx rt nm rm n0) {x y : Int32} (hd : decode bytes pc = .ok (.idiv, 1)) (hs : st = .int y :: .int x :: rest) (hy : y ≠ 0) (hp : pc + 1 = pc') (g : G w Q h k n pc' Ls (.int (x / y) :: rest)) : G w Q h k n pc Ls st := by
  subst hp; exact g.adv fun T locs X _ t r => XS.idiv X.here C.ex rfl (C.dec hd) hs hy r
theorem g_ldiv (C : Cx w l Z own bytes mx rt nm rm n0) {x y : Int64} (hd : decode bytes pc = .ok (.ldiv, 1)) (hs : st = .long y :: .long x :: rest) (hy : y ≠ 0) (hp : pc + 1 = pc') (g : G w Q h k n pc' Ls (.long (x / y) :: rest)) : G w Q h k n pc Ls st := by
  subst hp; exact g.adv fun T locs X _ t r => XS.ldiv X.here C.ex rfl (C.dec hd) hs hy r
theorem g_lrem (C : Cx w l Z own bytes mx rt nm rm n0) {x y : Int64} (hd : decode bytes pc = .ok (.lrem, 1)) (hs : st = .long y :: .long x :: rest) (hy : y ≠ 0) (hp : pc + 1 = pc') (g : G w Q h k n pc' Ls (.long (x - (x / y) * y) :: rest)) : G w Q h k n pc Ls st := by
  subst hp; exact g.adv fun T locs X _ t r => XS.lrem X.here C.ex rfl (C.dec hd) hs hy r
theorem g_lcmp (C : Cx w l Z own bytes mx rt nm rm n0) {x y : Int64} (hd : decode bytes pc = .ok (.lcmp, 1)) (hs : st = .long y :: .long x :: rest) (hp : pc + 1 = pc') (g : G w Q h k n pc' Ls (.int (lcmpW x y) :: rest)) : G w Q h k n pc Ls st := by
  subst hp; exact g.adv fun T locs X _ t r => XS.lcmp X.here C.ex rfl (C.dec hd) hs r
theorem g_dup (C : Cx w l Z own bytes mx rt nm rm n0) {x : Value} (hd : decode bytes pc = .ok (.dup, 1)) (hs : st = x :: rest) (hc : x.category = 1) (hp : pc + 1 = pc') (g : G w Q h k n pc' Ls (x :: x :: rest)) : G w Q h k n pc Ls st := by
  subst hp; exact g.adv fun T locs X _ t r => XS.dup X.here C.ex rfl (C.dec hd) hs hc r
theorem g_pop (C : Cx w l Z own bytes mx rt nm rm n0) {x : Value} (hd : decode bytes pc = .ok (.pop, 1)) (hs : st = x :: rest) (hc : x.category = 1) (hp : pc + 1 = pc') (g : G w Q h k n pc' Ls rest) : G w Q h k n pc Ls st := by
  subst hp; exact g.adv fun T locs X _ t r => XS.pop X.here C.ex rfl (C.dec hd) hs hc r
theorem g_dup_x1 (C : Cx w l Z own bytes mx rt nm rm n0) {x y : Value} (hd : decode bytes pc = .ok (.dup_x1, 1)) (hs : st = x :: y :: rest) (hc : x.category = 1) (hc' : y.category = 1) (hp : pc + 1 = pc') (g : G w Q h k n pc' Ls (x :: y :: x :: rest)) : G w Q h k n pc Ls st := by
  subst hp; exact g.adv fun T locs X _ t r => XS.dupX1 X.here C.ex rfl (C.dec hd) hs hc hc' r
theorem g_dup2 (C : Cx w l Z own bytes mx rt nm rm n0) {x y : Value} (hd : decode bytes pc = .ok (.dup2, 1)) (hs : st = x :: y :: rest) (hc : x.category = 1) (hc' : y.category = 1) (hp : pc + 1 = pc') (g : G w Q h k n pc' Ls (x :: y :: x :: y :: rest)) : G w Q h k n pc Ls st := by
  subst hp; exact g.adv fun T locs X _ t r => XT.dup2 X.here C.ex rfl (C.dec hd) hs hc hc' r
theorem g_dup2L (C : Cx w l Z own bytes mx rt nm rm n0) {x : Int64} (hd : decode bytes pc = .ok (.dup2, 1)) (hs : st = .long x :: rest) (hp : pc + 1 = pc') (g : G w Q h k n pc' Ls (.long x :: .long x :: rest)) : G w Q h k n pc Ls st := by
  subst hp; exact g.adv fun T locs X _ t r => XT.dup2L X.here C.ex rfl (C.dec hd) hs r
theorem g_pop2L (C : Cx w l Z own bytes mx rt nm rm n0) {x : Int64} (hd : decode bytes pc = .ok (.pop2, 1)) (hs : st = .long x :: rest) (hp : pc + 1 = pc') (g : G w Q h k n pc' Ls rest) : G w Q h k n pc Ls st := by
  subst hp hs; exact g.adv fun T locs X _ t r => by
    have hx := C.ex
    have hd' := C.dec hd
    show Steps w.p.tables w.e w.below (T.setTop { method := w.m, pc := pc, locals := Ls, stack := _ :: rest, locked := none }) _
    jvm_step X.here [X.here.top, hx, hd', Value.category]
    exact r
theorem g_dup2_x2L (C : Cx w l Z own bytes mx rt nm rm n0) {x : Int64} {y : Int32} {z : Addr} (hd : decode bytes pc = .ok (.dup2_x2, 1)) (hs : st = .long x :: .int y :: .ref z :: rest) (hp : pc + 1 = pc') (g : G w Q h k n pc' Ls (.long x :: .int y :: .ref z :: .long x :: rest)) : G w Q h k n pc Ls st := by
  subst hp hs; exact g.adv fun T locs X _ t r => by
    have hx := C.ex
    have hd' := C.dec hd
    show Steps w.p.tables w.e w.below (T.setTop { method := w.m, pc := pc, locals := Ls, stack := _ :: _ :: _ :: rest, locked := none }) _
    jvm_step X.here [X.here.top, hx, hd', Value.category]
    exact r
theorem g_goto (C : Cx w l Z own bytes mx rt nm rm n0) {o : Int} (hd : decode bytes pc = .ok (.goto o, 3)) (ho : 0 ≤ (pc : Int) + o) (hp : ((pc : Int) + o).toNat = pc') (g : G w Q h k n pc' Ls st) : G w Q h k n pc Ls st :=
  g.adv fun T locs X _ t r => XS.goto X.here C.ex rfl (pc0 := pc) rfl (C.dec hd) ho hp r
theorem g_ifY (C : Cx w l Z own bytes mx rt nm rm n0) {cd : ClassFile.Cond} {o : Int} {x : Int32} (hd : decode bytes pc = .ok (.ifCond cd o, 3)) (hs : st = .int x :: rest) (hc : if_icmp.holds cd x 0 = true) (ho : 0 ≤ (pc : Int) + o) (hp : ((pc : Int) + o).toNat = pc') (g : G w Q h k n pc' Ls rest) : G w Q h k n pc Ls st :=
  g.adv fun T locs X _ t r => XS.ifYes X.here C.ex rfl (pc0 := pc) rfl (C.dec hd) hs ((if0 _ _).trans hc) ho hp r
theorem g_ifN (C : Cx w l Z own bytes mx rt nm rm n0) {cd : ClassFile.Cond} {o : Int} {x : Int32} (hd : decode bytes pc = .ok (.ifCond cd o, 3)) (hs : st = .int x :: rest) (hc : if_icmp.holds cd x 0 = false) (hp : pc + 3 = pc') (g : G w Q h k n pc' Ls rest) : G w Q h k n pc Ls st := by
  subst hp; exact g.adv fun T locs X _ t r => XS.ifNo X.here C.ex rfl (C.dec hd) hs ((if0 _ _).trans hc) r
theorem g_icY (C : Cx w l Z own bytes mx rt nm rm n0) {cd : ClassFile.Cond} {o : Int} {x y : Int32} (hd : decode bytes pc = .ok (.if_icmp cd o, 3)) (hs : st = .int y :: .int x :: rest) (hc : if_icmp.holds cd x y = true) (ho : 0 ≤ (pc : Int) + o) (hp : ((pc : Int) + o).toNat = pc') (g : G w Q h k n pc' Ls rest) : G w Q h k n pc Ls st :=
  g.adv fun T locs X _ t r => XS.icmpYes X.here C.ex rfl (pc0 := pc) rfl (C.dec hd) hs hc ho hp r
theorem g_icN (C : Cx w l Z own bytes mx rt nm rm n0) {cd : ClassFile.Cond} {o : Int} {x y : Int32} (hd : decode bytes pc = .ok (.if_icmp cd o, 3)) (hs : st = .int y :: .int x :: rest) (hc : if_icmp.holds cd x y = false) (hp : pc + 3 = pc') (g : G w Q h k n pc' Ls rest) : G w Q h k n pc Ls st := by
  subst hp; exact g.adv fun T locs X _ t r => XS.icmpNo X.here C.ex rfl (C.dec hd) hs hc r
/-- what a branch says, in plain words -/
def says (cd : ClassFile.Cond) (x y : Int32) : Prop := match cd with | .lt => x < y | .ge => ¬ x < y | .gt => y < x | .le => ¬ y < x | .eq => x = y | .ne => ¬ x = y
theorem says_t {cd : ClassFile.Cond} {x y : Int32} (q : says cd x y) : if_icmp.holds cd x y = true := by
  cases cd
  · exact (teq q).1
  · exact (feq q).2
  · exact (tlt q).1
  · exact (flt q).2.1
  · exact (tlt q).2.2.1
  · exact (flt q).2.2.2
theorem says_f {cd : ClassFile.Cond} {x y : Int32} (q : ¬ says cd x y) : if_icmp.holds cd x y = false := by
  cases cd
  · exact (feq q).1
  · exact (teq (Decidable.not_not.mp q)).2
  · exact (flt q).1
  · exact (tlt (Decidable.not_not.mp q)).2.1
  · exact (flt q).2.2.1
  · exact (tlt (Decidable.not_not.mp q)).2.2.2
theorem g_icB (C : Cx w l Z own bytes mx rt nm rm n0) {cd : ClassFile.Cond} {o : Int} {x y : Int32} {pcT : Nat} (hd : decode bytes pc = .ok (.if_icmp cd o, 3)) (hs : st = .int y :: .int x :: rest) (ho : 0 ≤ (pc : Int) + o) (hT : ((pc : Int) + o).toNat = pcT) (hp : pc + 3 = pc') (gy : says cd x y → G w Q h k n pcT Ls rest) (gn : ¬ says cd x y → G w Q h k n pc' Ls rest) : G w Q h k n pc Ls st := by
  by_cases q : says cd x y
  · exact g_icY C hd hs (says_t q) ho hT (gy q)
  · exact g_icN C hd hs (says_f q) hp (gn q)
theorem g_ifB (C : Cx w l Z own bytes mx rt nm rm n0) {cd : ClassFile.Cond} {o : Int} {x : Int32} {pcT : Nat} (hd : decode bytes pc = .ok (.ifCond cd o, 3)) (hs : st = .int x :: rest) (ho : 0 ≤ (pc : Int) + o) (hT : ((pc : Int) + o).toNat = pcT) (hp : pc + 3 = pc') (gy : says cd x 0 → G w Q h k n pcT Ls rest) (gn : ¬ says cd x 0 → G w Q h k n pc' Ls rest) : G w Q h k n pc Ls st := by
  by_cases q : says cd x 0
  · exact g_ifY C hd hs (says_t q) ho hT (gy q)
  · exact g_ifN C hd hs (says_f q) hp (gn q)
theorem g_ifnullY (C : Cx w l Z own bytes mx rt nm rm n0) {o : Int} (hd : decode bytes pc = .ok (.ifnull o, 3)) (hs : st = .null :: rest) (ho : 0 ≤ (pc : Int) + o) (hp : ((pc : Int) + o).toNat = pc') (g : G w Q h k n pc' Ls rest) : G w Q h k n pc Ls st :=
  g.adv fun T locs X _ t r => XS.ifnullYes X.here C.ex rfl (pc0 := pc) rfl (C.dec hd) hs ho hp r
theorem g_ifnullN (C : Cx w l Z own bytes mx rt nm rm n0) {o : Int} {b : Addr} (hd : decode bytes pc = .ok (.ifnull o, 3)) (hs : st = .ref b :: rest) (hp : pc + 3 = pc') (g : G w Q h k n pc' Ls rest) : G w Q h k n pc Ls st := by
  subst hp; exact g.adv fun T locs X _ t r => XS.ifnullNo X.here C.ex rfl (C.dec hd) hs r
theorem g_ifnonnullY (C : Cx w l Z own bytes mx rt nm rm n0) {o : Int} {b : Addr} (hd : decode bytes pc = .ok (.ifnonnull o, 3)) (hs : st = .ref b :: rest) (ho : 0 ≤ (pc : Int) + o) (hp : ((pc : Int) + o).toNat = pc') (g : G w Q h k n pc' Ls rest) : G w Q h k n pc Ls st :=
  g.adv fun T locs X _ t r => XS.ifnonnullYes X.here C.ex rfl (pc0 := pc) rfl (C.dec hd) hs ho hp r
theorem g_ifnonnullN (C : Cx w l Z own bytes mx rt nm rm n0) {o : Int} (hd : decode bytes pc = .ok (.ifnonnull o, 3)) (hs : st = .null :: rest) (hp : pc + 3 = pc') (g : G w Q h k n pc' Ls rest) : G w Q h k n pc Ls st := by
  subst hp; exact g.adv fun T locs X _ t r => XS.ifnonnullNo X.here C.ex rfl (C.dec hd) hs r
theorem g_acmp (C : Cx w l Z own bytes mx rt nm rm n0) {cd : ACond} {o : Int} {x y : Value} {same : Bool} (hd : decode bytes pc = .ok (.if_acmp cd o, 3)) (hs : st = y :: x :: rest) (h1 : x.isRef = true) (h2 : y.isRef = true) (hq : decide (x = y) = same) (ho : 0 ≤ (pc : Int) + o) (hp : pc' = if acV cd same = true then ((pc : Int) + o).toNat else pc + 3) (g : G w Q h k n pc' Ls rest) : G w Q h k n pc Ls st :=
  g.adv fun T locs X _ t r => Jvm.RoadKit.acmp (g := mkF w.m pc Ls st) X C.ex rfl h1 h2 (pc0 := pc) rfl (C.dec hd) hs hq ho hp r
theorem g_tsw (C : Cx w l Z own bytes mx rt nm rm n0) {df lo hi : Int} {offs : Array Int} {len : Nat} {o : Int} {i : Int32} (hd : decode bytes pc = .ok (.tableswitch df lo hi offs, len)) (hs : st = .int i :: rest) (hin : ¬ (i.toInt < lo ∨ i.toInt > hi)) (hoff : offs[(i.toInt - lo).toNat]? = some o) (ho : 0 ≤ (pc : Int) + o) (hp : ((pc : Int) + o).toNat = pc') (g : G w Q h k n pc' Ls rest) : G w Q h k n pc Ls st :=
  g.adv fun T locs X _ t r => XS.tswIn X.here C.ex rfl (pc0 := pc) rfl (C.dec hd) hs hin hoff ho hp r
theorem g_tswOut (C : Cx w l Z own bytes mx rt nm rm n0) {df lo hi : Int} {offs : Array Int} {len : Nat} {i : Int32} (hd : decode bytes pc = .ok (.tableswitch df lo hi offs, len)) (hs : st = .int i :: rest) (hin : i.toInt < lo ∨ i.toInt > hi) (ho : 0 ≤ (pc : Int) + df) (hp : ((pc : Int) + df).toNat = pc') (g : G w Q h k n pc' Ls rest) : G w Q h k n pc Ls st :=
  g.adv fun T locs X _ t r => XS.tswOut X.here C.ex rfl (pc0 := pc) rfl (C.dec hd) hs hin ho hp r
/-! the heap and the tables -/
theorem g_getF (C : Cx w l Z own bytes mx rt nm rm n0) {R0 O f d : String} {i : Nat} {a : Addr} {v : Value} (hw : (Jvm.Cond.fieldLink own i R0 f d).before a0 Z = true) (via : Via Z R0 O f d) (hd : decode bytes pc = .ok (.getfield i, 3)) (hs : st = .ref a :: rest) (F : Fld Z h a O f d v) (hp : pc + 3 = pc') (g : G w Q h k n pc' Ls (v :: rest)) : G w Q h k n pc Ls st := by
  subst hp; intro T locs X eT N
  obtain ⟨T', X', e', s'⟩ := getF X C.ex C.hZ C.ow (host := "") (Or.inl hw) via eT F (g := mkF w.m pc Ls st) rfl hs (C.dec hd)
  exact G.to X' e' N s' g
theorem g_getFN (C : Cx w l Z own bytes mx rt nm rm n0) {R0 O f d host : String} {i : Nat} {a : Addr} {v : Value} (hw : (Jvm.Cond.fieldLinkNest own i R0 f d host).before a0 Z = true) (via : Via Z R0 O f d) (hd : decode bytes pc = .ok (.getfield i, 3)) (hs : st = .ref a :: rest) (F : Fld Z h a O f d v) (hp : pc + 3 = pc') (g : G w Q h k n pc' Ls (v :: rest)) : G w Q h k n pc Ls st := by
  subst hp; intro T locs X eT N
  obtain ⟨T', X', e', s'⟩ := getF X C.ex C.hZ C.ow (Or.inr hw) via eT F (g := mkF w.m pc Ls st) rfl hs (C.dec hd)
  exact G.to X' e' N s' g
theorem g_getS (C : Cx w l Z own bytes mx rt nm rm n0) {R0 O f d : String} {i : Nat} {v : Value} (hw : (Jvm.Cond.fieldLink own i R0 f d).before a0 Z = true) (via : Via Z R0 O f d) (hd : decode bytes pc = .ok (.getstatic i, 3)) (F : Sta Z h O f d v) (hp : pc + 3 = pc') (g : G w Q h k n pc' Ls (v :: st)) : G w Q h k n pc Ls st := by
  subst hp; intro T locs X eT N
  obtain ⟨T', X', e', s'⟩ := getS2 X C.ex C.hZ C.ow (host := "") (Or.inl hw) via eT F (g := mkF w.m pc Ls st) rfl (C.dec hd)
  exact G.to X' e' N s' g
theorem g_getSN (C : Cx w l Z own bytes mx rt nm rm n0) {R0 O f d host : String} {i : Nat} {v : Value} (hw : (Jvm.Cond.fieldLinkNest own i R0 f d host).before a0 Z = true) (via : Via Z R0 O f d) (hd : decode bytes pc = .ok (.getstatic i, 3)) (F : Sta Z h O f d v) (hp : pc + 3 = pc') (g : G w Q h k n pc' Ls (v :: st)) : G w Q h k n pc Ls st := by
  subst hp; intro T locs X eT N
  obtain ⟨T', X', e', s'⟩ := getS2 X C.ex C.hZ C.ow (Or.inr hw) via eT F (g := mkF w.m pc Ls st) rfl (C.dec hd)
  exact G.to X' e' N s' g
theorem fr_snoc {L : List Loc} {a : Addr} {sl k : Nat} (N : Fr k L) (q : k ≤ a) : Fr k (L ++ [⟨a, sl⟩]) := N.app fun y hy => by cases List.mem_singleton.mp hy; exact q
theorem g_putF (C : Cx w l Z own bytes mx rt nm rm n0) {R0 O f d K : String} {i kk : Nat} {ty : FieldType} {a : Addr} {v old : Value} (hw : (Jvm.Cond.fieldLink own i R0 f d).before a0 Z = true) (via : Via Z R0 O f d) (hd : decode bytes pc = .ok (.putfield i, 3)) (hs : st = v :: .ref a :: rest) (F : Fld Z h a O f d old) (E : Exa Z h a K) (La : (Jvm.Cond.lays K O f d).before a0 Z = true ∨ ((Jvm.Cond.laysFinal K O f d).before a0 Z = true ∧ own = O ∧ nm = "<init>")) (wi : (Jvm.Cond.instantiable K kk).before a0 Z = true) (hty : parseFieldDescriptor d = some ty) (hn : narrow ty v = v) (hf : fits ty v = true) (ge : n0 ≤ a) (hp : pc + 3 = pc')
    (g : ∀ h', Wr h h' a (Jvm.RoadKit.slotOf Z O f d) v → G w Q h' k n pc' Ls rest) : G w Q h k n pc Ls st := by
  subst hp; intro T locs X eT N
  obtain ⟨T', h', X', e', W, s'⟩ := putF X C.ex C.hZ C.ow (host := "") (Or.inl hw) via eT F E (La.imp id fun q => ⟨q.1, q.2.1, C.mn.trans q.2.2⟩) wi hty hn hf (g := mkF w.m pc Ls st) rfl hs (C.dec hd)
  exact G.to X' e' (fr_snoc N (C.nn ▸ ge)) s' (g h' W)
theorem g_putFN (C : Cx w l Z own bytes mx rt nm rm n0) {R0 O f d K : String} {i kk : Nat} {ty : FieldType} {a : Addr} {v v' old : Value} (hw : (Jvm.Cond.fieldLink own i R0 f d).before a0 Z = true) (via : Via Z R0 O f d) (hd : decode bytes pc = .ok (.putfield i, 3)) (hs : st = v :: .ref a :: rest) (F : Fld Z h a O f d old) (E : Exa Z h a K) (La : (Jvm.Cond.lays K O f d).before a0 Z = true ∨ ((Jvm.Cond.laysFinal K O f d).before a0 Z = true ∧ own = O ∧ nm = "<init>")) (wi : (Jvm.Cond.instantiable K kk).before a0 Z = true) (hty : parseFieldDescriptor d = some ty) (hn : narrow ty v = v') (hf : fits ty v' = true) (ge : n0 ≤ a) (hp : pc + 3 = pc')
    (g : ∀ h', Wr h h' a (Jvm.RoadKit.slotOf Z O f d) v' → G w Q h' k n pc' Ls rest) : G w Q h k n pc Ls st := by
  subst hp; intro T locs X eT N
  obtain ⟨T', h', X', e', W, s'⟩ := putFN X C.ex C.hZ C.ow hw via eT F E (La.imp id fun q => ⟨q.1, q.2.1, C.mn.trans q.2.2⟩) wi hty hn hf (g := mkF w.m pc Ls st) rfl hs (C.dec hd)
  exact G.to X' e' (fr_snoc N (C.nn ▸ ge)) s' (g h' W)
theorem g_new (C : Cx w l Z own bytes mx rt nm rm n0) {K : String} {i ns : Nat} (hw : (Jvm.Cond.classLink own i K).before a0 Z = true) (wi : (Jvm.Cond.instantiable K ns).before a0 Z = true) (wz : (Jvm.Cond.initialized K).before a0 Z = true) (hd : decode bytes pc = .ok (.new i, 3)) (hc : k' ≤ rm.cells) (hl : n' ≤ rm.slots) (ek : k + 1 = k') (en : n + ns = n') (hp : pc + 3 = pc')
    (g : ∀ h' a, a = h.size → Ext h h' → Exa Z h' a K → (∀ {O f d : String} {ty : FieldType}, Laid Z a0 K O f d → parseFieldDescriptor d = some ty → Fld Z h' a O f d (defaultValue ty)) → G w Q h' k' n' pc' Ls (.ref a :: st)) : G w Q h k n pc Ls st := by
  subst hp ek en; intro T locs X eT N
  obtain ⟨T', h', X', e', E, A, D, -, s'⟩ := newO X C.ex C.hZ C.ow hw wi wz eT (g := mkF w.m pc Ls st) rfl (C.dec hd) (by rw [C.ro]; exact hc) (by rw [C.ro]; exact hl)
  exact G.to X' e' N s' (g h' _ rfl E A D)
theorem g_initO (C : Cx w l Z own bytes mx rt nm rm n0) {i : Nat} {a : Addr} (hw : (Jvm.Cond.methodLink own i Lib.objectInit).before a0 Z = true) (w2 : (Jvm.Cond.instanceMethod Lib.objectInit).before a0 Z = true) (w3 : (Jvm.Cond.code Lib.objectInit ⟨#[0xb1]⟩ 1 none).before a0 Z = true) (hd : decode bytes pc = .ok (.invokespecial i, 3)) (hs : st = .ref a :: rest) (hz : Ls.size = mx) (hf : 1 ≤ rm.frames) (hl : (rest.map fun v => v.category).sum + 12 ≤ rm.locals) (hp : pc + 3 = pc') (g : G w Q h k n pc' Ls rest) : G w Q h k n pc Ls st := by
  subst hp; intro T locs X eT N
  obtain ⟨T', X', e', s'⟩ := initO X C.ex C.hZ C.ow hw w2 w3 eT (g := mkF w.m pc Ls st) rfl (hz.trans C.ml.symm) hs (C.dec hd) (by rw [C.ro]; exact hf) (W := (rest.map fun v => v.category).sum) (by show 2 * 0 + _ ≤ _; omega) (by rw [C.ro]; exact hl)
  exact G.to X' e' N s' g
theorem g_cast (C : Cx w l Z own bytes mx rt nm rm n0) {K : String} {i : Nat} {a : Addr} (hw : (Jvm.Cond.classLink own i K).before a0 Z = true) (hd : decode bytes pc = .ok (.checkcast i, 3)) (hs : st = .ref a :: rest) (F : Ins Z h a K true) (hp : pc + 3 = pc') (g : G w Q h k n pc' Ls st) : G w Q h k n pc Ls st := by
  subst hp; intro T locs X eT N
  obtain ⟨T', X', e', s'⟩ := castY X C.ex C.hZ C.ow hw eT F (g := mkF w.m pc Ls st) rfl hs (C.dec hd)
  exact G.to X' e' N s' g
theorem g_instY (C : Cx w l Z own bytes mx rt nm rm n0) {K : String} {i : Nat} {a : Addr} (hw : (Jvm.Cond.classLink own i K).before a0 Z = true) (hd : decode bytes pc = .ok (.instanceof i, 3)) (hs : st = .ref a :: rest) (F : Ins Z h a K true) (hp : pc + 3 = pc') (g : G w Q h k n pc' Ls (.int 1 :: rest)) : G w Q h k n pc Ls st := by
  subst hp; intro T locs X eT N
  obtain ⟨T', X', e', s'⟩ := instY X C.ex C.hZ C.ow hw eT F (g := mkF w.m pc Ls st) rfl hs (C.dec hd)
  exact G.to X' e' N s' g
theorem g_instN (C : Cx w l Z own bytes mx rt nm rm n0) {K B : String} {i : Nat} {a : Addr} (hw : (Jvm.Cond.classLink own i K).before a0 Z = true) (hd : decode bytes pc = .ok (.instanceof i, 3)) (hs : st = .ref a :: rest) (E : Exa Z h a B) (F : ∃ c t, Z.vm.findClass B = some c ∧ Z.vm.findClass K = some t ∧ Z.vm.assignable c t = false) (hp : pc + 3 = pc') (g : G w Q h k n pc' Ls (.int 0 :: rest)) : G w Q h k n pc Ls st := by
  subst hp; intro T locs X eT N
  obtain ⟨T', X', e', s'⟩ := instNo X C.ex C.hZ C.ow hw eT E F (g := mkF w.m pc Ls st) rfl hs (C.dec hd)
  exact G.to X' e' N s' g
theorem g_newP (C : Cx w l Z own bytes mx rt nm rm n0) {aty : ArrayType} {z : Int32} {cap : Nat} (hw : (Jvm.Cond.arrayClass (newarray.typeOf aty)).before a0 Z = true) (hd : decode bytes pc = .ok (.newarray aty, 2)) (hs : st = .int z :: rest) (hn : ¬ z < 0) (hcap : z.toNatClampNeg ≤ cap) (hb' : cap * 8 ≤ 536870912) (hc : k' ≤ rm.cells) (hl : n' ≤ rm.slots) (ek : k + 1 = k') (en : n + cap = n') (hp : pc + 2 = pc')
    (g : ∀ h' a kA, a = h.size → Ext h h' → Arv Z h' a kA (newarray.typeOf aty) z [] (defaultValue (newarray.typeOf aty)) → G w Q h' k' n' pc' Ls (.ref a :: rest)) : G w Q h k n pc Ls st := by
  subst hp ek en; intro T locs X eT N
  obtain ⟨T', h', kA, X', e', E, A, s'⟩ := newP X C.ex C.hZ hw eT (g := mkF w.m pc Ls st) rfl (C.dec hd) hs hn hcap hb' (by rw [C.ro]; exact hc) (by rw [C.ro]; exact hl)
  exact G.to X' e' N s' (g h' _ kA rfl E (Arv.new A hn))
theorem g_newR (C : Cx w l Z own bytes mx rt nm rm n0) {K : String} {i : Nat} {z : Int32} {cap : Nat} (hw : (Jvm.Cond.classLink own i K).before a0 Z = true) (w2 : (Jvm.Cond.arrayOver (.object K)).before a0 Z = true) (hd : decode bytes pc = .ok (.anewarray i, 3)) (hs : st = .int z :: rest) (hn : ¬ z < 0) (hcap : z.toNatClampNeg ≤ cap) (hb' : cap * 8 ≤ 536870912) (hc : k' ≤ rm.cells) (hl : n' ≤ rm.slots) (ek : k + 1 = k') (en : n + cap = n') (hp : pc + 3 = pc')
    (g : ∀ h' a kA, a = h.size → Ext h h' → Arv Z h' a kA (.object K) z [] .null → Ovr Z kA K → G w Q h' k' n' pc' Ls (.ref a :: rest)) : G w Q h k n pc Ls st := by
  subst hp ek en; intro T locs X eT N
  obtain ⟨T', h', kA, X', e', E, A, O, s'⟩ := newR X C.ex C.hZ C.ow hw w2 eT (g := mkF w.m pc Ls st) rfl (C.dec hd) hs hn hcap hb' (by rw [C.ro]; exact hc) (by rw [C.ro]; exact hl)
  exact G.to X' e' N s' (g h' _ kA rfl E (Arv.new A hn) O)
theorem g_newPE (C : Cx w l Z own bytes mx rt nm rm n0) {aty : ArrayType} {z : Int32} {cap : Nat} {ad : String} (hw : (Jvm.Cond.arrayClass (newarray.typeOf aty)).before a0 Z = true) (had : "[" ++ (newarray.typeOf aty).toString = ad) (hd : decode bytes pc = .ok (.newarray aty, 2)) (hs : st = .int z :: rest) (hn : ¬ z < 0) (hcap : z.toNatClampNeg ≤ cap) (hb' : cap * 8 ≤ 536870912) (hc : k' ≤ rm.cells) (hl : n' ≤ rm.slots) (ek : k + 1 = k') (en : n + cap = n') (hp : pc + 2 = pc')
    (g : ∀ h' a kA, a = h.size → Ext h h' → Arv Z h' a kA (newarray.typeOf aty) z [] (defaultValue (newarray.typeOf aty)) → Exa Z h' a ad → G w Q h' k' n' pc' Ls (.ref a :: rest)) : G w Q h k n pc Ls st := by
  subst hp ek en; intro T locs X eT N
  obtain ⟨T', h', kA, X', e', E, A, B, s'⟩ := newPE X C.ex C.hZ hw eT (g := mkF w.m pc Ls st) rfl (C.dec hd) hs hn hcap hb' (by rw [C.ro]; exact hc) (by rw [C.ro]; exact hl) had
  exact G.to X' e' N s' (g h' _ kA rfl E (Arv.new A hn) B)
theorem g_newRA (C : Cx w l Z own bytes mx rt nm rm n0) {K ad : String} {i : Nat} {ty : FieldType} {z : Int32} {cap : Nat} (hC : (FieldType.array ty).toString = K) (had : "[" ++ K = ad) (hw : (Jvm.Cond.classLink own i K).before a0 Z = true) (w2 : (Jvm.Cond.arrayOver (.array ty)).before a0 Z = true) (hd : decode bytes pc = .ok (.anewarray i, 3)) (hs : st = .int z :: rest) (hn : ¬ z < 0) (hcap : z.toNatClampNeg ≤ cap) (hb' : cap * 8 ≤ 536870912) (hc : k' ≤ rm.cells) (hl : n' ≤ rm.slots) (ek : k + 1 = k') (en : n + cap = n') (hp : pc + 3 = pc')
    (g : ∀ h' a kA, a = h.size → Ext h h' → Arv Z h' a kA (.array ty) z [] .null → Exa Z h' a ad → OvrA Z kA ty K → G w Q h' k' n' pc' Ls (.ref a :: rest)) : G w Q h k n pc Ls st := by
  subst hp ek en; intro T locs X eT N
  obtain ⟨T', h', kA, X', e', E, A, B, O, s'⟩ := newRA X C.ex C.hZ C.ow hC hw w2 eT (g := mkF w.m pc Ls st) rfl (C.dec hd) hs hn hcap hb' (by rw [C.ro]; exact hc) (by rw [C.ro]; exact hl) had
  exact G.to X' e' N s' (g h' _ kA rfl E (Arv.new A hn) B O)
theorem stoA {h : Heap} {a y : Addr} {kA : ClassId} {t0 ty : FieldType} {K : String} {z : Int32} {vs : List Value} {dv : Value} (A : Arv Z h a kA t0 z vs dv) (O : OvrA Z kA ty K) (E : Exa Z h y K) : Sto Z h a (.ref y) := by
  obtain ⟨c, Ar, q, -⟩ := A; exact Sto.ofVA Ar q O (Ins.self E)
theorem stoR {h : Heap} {a y : Addr} {kA : ClassId} {t0 : FieldType} {K : String} {z : Int32} {vs : List Value} {dv : Value} (A : Arv Z h a kA t0 z vs dv) (O : Ovr Z kA K) (I : Ins Z h y K true) : Sto Z h a (.ref y) := by
  obtain ⟨c, Ar, q, -⟩ := A; exact Sto.ofV Ar q O I
theorem g_cpA (C : Cx w l Z own bytes mx rt nm rm n0) {i : Nat} {a b : Addr} {k1 k2 : ClassId} {ty ty' : FieldType} {z z' sp dp nn : Int32} {vs vd us : List Value} {dv dd : Value}
    (w1 : (Jvm.Cond.methodLink own i Jvm.Stand.acN).before a0 Z = true) (w2 : (Jvm.Cond.native Jvm.Stand.acN).before a0 Z = true) (w3 : (Jvm.Cond.static Jvm.Stand.acN).before a0 Z = true) (w4 : (Jvm.Cond.initialized "java/lang/System").before a0 Z = true)
    (hd : decode bytes pc = .ok (.invokestatic i, 3)) (hs : st = .int nn :: .int dp :: .ref b :: .int sp :: .ref a :: rest) (hz : Ls.size = mx) (A : Arv Z h a k1 ty z vs dv) (B : Arv Z h b k2 ty' z' vd dd) (hty : (ty = ty' ∧ refKind ty = false) ∨ (refKind ty = true ∧ refKind ty' = true ∧ StoL Z h b us))
    (h1 : ¬ sp < 0) (h2 : ¬ dp < 0) (h3 : ¬ nn < 0) (h4 : sp.toNatClampNeg + nn.toNatClampNeg ≤ z.toNatClampNeg) (h5 : dp.toNatClampNeg + nn.toNatClampNeg ≤ z'.toNatClampNeg) (hus : us = (List.range nn.toNatClampNeg).map fun i => vs.getD (sp.toNatClampNeg + i) dv) (hlen : dp.toNatClampNeg + nn.toNatClampNeg ≤ vd.length) (ge : n0 ≤ b)
    (hf : 1 ≤ rm.frames) (hlo : (rest.map fun v => v.category).sum + (nativeFrameWords "java/lang/System" "arraycopy" 5 + 11) ≤ rm.locals) (hp : pc + 3 = pc')
    (g : ∀ h', Keep h h' [b] → Arv Z h' b k2 ty' z' (vd.take dp.toNatClampNeg ++ us ++ vd.drop (dp.toNatClampNeg + nn.toNatClampNeg)) dd → G w Q h' k n pc' Ls rest) : G w Q h k n pc Ls st := by
  subst hp; intro T locs X eT N
  obtain ⟨T', h', L, X', e', N', K, A', s'⟩ := cpA X C.ex C.hZ C.ow w1 w2 w3 w4 eT A B hty h1 h2 h3 h4 h5 hus hlen (n0 := w.n0) N (C.nn ▸ ge) (g := mkF w.m pc Ls st) rfl (hz.trans C.ml.symm) hs (C.dec hd) (by rw [C.ro]; exact hf) (W := (rest.map fun v => v.category).sum) (by show 2 * 0 + _ ≤ _; omega) (by rw [C.ro]; exact hlo)
  exact G.to X' e' N' s' (g h' K A')
/-! arrays by their values: an array fact (Arv) with a list of all its values -/
theorem arv_inb {a : Addr} {kA : ClassId} {ty : FieldType} {z j : Int32} {vs : List Value} {dv : Value} (A : Arv Z h a kA ty z vs dv) (q1 : ¬ j < 0) (q2 : j < z) : ∃ cl, Arr Z h a cl ty ∧ ¬ (j < 0 ∨ cl.slots.size ≤ j.toNatClampNeg) ∧ cl.slots[j.toNatClampNeg]? = some (vs.getD j.toNatClampNeg dv) := by
  obtain ⟨cl, Ar, -, S, -, H, -⟩ := A
  have hi := inb_of S ⟨q1, q2⟩
  exact ⟨cl, Ar, hi, H.at hi rfl⟩
theorem arv_put {h' : Heap} {a : Addr} {kA : ClassId} {ty : FieldType} {z j : Int32} {vs : List Value} {dv v : Value} (A : Arv Z h a kA ty z vs dv) (hv : fits ty v = true) (W : Wr h h' a j.toNatClampNeg v) {i : Nat} (hj : j.toNatClampNeg = i) (hi : i < vs.length) : Arv Z h' a kA ty z (vs.set i v) dv := by
  obtain ⟨cl, Ar, q1, S, q3, H, F⟩ := A
  exact Arv.set Ar q1 S q3 H F hv W i hj hi

theorem g_iaload (C : Cx w l Z own bytes mx rt nm rm n0) {a : Addr} {kA : ClassId} {z j : Int32} {vs : List Value} {dv : Value} {x : Int32} (hd : decode bytes pc = .ok (.iaload, 1)) (hs : st = .int j :: .ref a :: rest) (A : Arv Z h a kA .int z vs dv) (q1 : ¬ j < 0) (q2 : j < z) (hv : vs.getD j.toNatClampNeg dv = .int x) (hp : pc + 1 = pc') (g : G w Q h k n pc' Ls (.int x :: rest)) : G w Q h k n pc Ls st := by
  subst hp; intro T locs X eT N
  obtain ⟨cl, Ar, hi, hg⟩ := arv_inb A q1 q2
  rw [hv] at hg
  exact G.to X eT N (fun t r => X.iaload C.ex (j := j) (v := .int x) (by rw [eT]; exact Ar.1) (State.isArrayOf_alike C.hZ.alike Ar.2.1) Ar.2.2 hi hg (g := mkF w.m pc Ls st) rfl hs (C.dec hd) _ r) g
theorem g_laload (C : Cx w l Z own bytes mx rt nm rm n0) {a : Addr} {kA : ClassId} {z j : Int32} {vs : List Value} {dv : Value} {x : Int64} (hd : decode bytes pc = .ok (.laload, 1)) (hs : st = .int j :: .ref a :: rest) (A : Arv Z h a kA .long z vs dv) (q1 : ¬ j < 0) (q2 : j < z) (hv : vs.getD j.toNatClampNeg dv = .long x) (hp : pc + 1 = pc') (g : G w Q h k n pc' Ls (.long x :: rest)) : G w Q h k n pc Ls st := by
  subst hp; intro T locs X eT N
  obtain ⟨cl, Ar, hi, hg⟩ := arv_inb A q1 q2
  rw [hv] at hg
  exact G.to X eT N (fun t r => X.laload C.ex (j := j) (v := .long x) (by rw [eT]; exact Ar.1) (State.isArrayOf_alike C.hZ.alike Ar.2.1) Ar.2.2 hi hg (g := mkF w.m pc Ls st) rfl hs (C.dec hd) _ r) g
theorem g_baload (C : Cx w l Z own bytes mx rt nm rm n0) {a : Addr} {kA : ClassId} {z j : Int32} {vs : List Value} {dv : Value} {x : Int32} (hd : decode bytes pc = .ok (.baload, 1)) (hs : st = .int j :: .ref a :: rest) (A : Arv Z h a kA .byte z vs dv) (q1 : ¬ j < 0) (q2 : j < z) (hv : vs.getD j.toNatClampNeg dv = .int x) (hp : pc + 1 = pc') (g : G w Q h k n pc' Ls (.int x :: rest)) : G w Q h k n pc Ls st := by
  subst hp; intro T locs X eT N
  obtain ⟨cl, Ar, hi, hg⟩ := arv_inb A q1 q2
  rw [hv] at hg
  exact G.to X eT N (fun t r => X.baloadBytes C.ex (j := j) (v := .int x) (by rw [eT]; exact Ar.1) (State.isArrayOf_alike C.hZ.alike Ar.2.1) Ar.2.2 hi hg (g := mkF w.m pc Ls st) rfl hs (C.dec hd) _ r) g
theorem g_aaload (C : Cx w l Z own bytes mx rt nm rm n0) {a : Addr} {kA : ClassId} {ty : FieldType} {z j : Int32} {vs : List Value} {dv x : Value} (hd : decode bytes pc = .ok (.aaload, 1)) (hs : st = .int j :: .ref a :: rest) (A : Arv Z h a kA ty z vs dv) (hty : ty.isReference = true) (q1 : ¬ j < 0) (q2 : j < z) (hv : vs.getD j.toNatClampNeg dv = x) (hp : pc + 1 = pc') (g : G w Q h k n pc' Ls (x :: rest)) : G w Q h k n pc Ls st := by
  subst hp; intro T locs X eT N
  obtain ⟨cl, Ar, hi, hg⟩ := arv_inb A q1 q2
  rw [hv] at hg
  exact G.to X eT N (fun t r => X.aaload C.ex (j := j) (v := x) (by rw [eT]; exact Ar.1) (State.isArrayOf_alike C.hZ.alike Ar.2.1) hty Ar.2.2 hi hg (g := mkF w.m pc Ls st) rfl hs (C.dec hd) _ r) g
theorem g_alen (C : Cx w l Z own bytes mx rt nm rm n0) {a : Addr} {kA : ClassId} {ty : FieldType} {z : Int32} {vs : List Value} {dv : Value} (hd : decode bytes pc = .ok (.arraylength, 1)) (hs : st = .ref a :: rest) (A : Arv Z h a kA ty z vs dv) (hp : pc + 1 = pc') (g : G w Q h k n pc' Ls (.int z :: rest)) : G w Q h k n pc Ls st := by
  subst hp; intro T locs X eT N
  obtain ⟨cl, Ar, -, S, q3, -, -⟩ := A
  exact G.to X eT N (fun t r => X.arraylength C.ex (by rw [eT]; exact Ar.1) (State.isArrayOf_alike C.hZ.alike Ar.2.1) (g := mkF w.m pc Ls st) rfl hs (C.dec hd) _ (by rw [len_of S q3]; exact r)) g

theorem g_iastore (C : Cx w l Z own bytes mx rt nm rm n0) {a : Addr} {kA : ClassId} {z j : Int32} {vs : List Value} {dv : Value} {x : Int32} (hd : decode bytes pc = .ok (.iastore, 1)) (hs : st = .int x :: .int j :: .ref a :: rest) (A : Arv Z h a kA .int z vs dv) (q1 : ¬ j < 0) (q2 : j < z) (ge : n0 ≤ a) (hp : pc + 1 = pc')
    (g : ∀ h', Wr h h' a j.toNatClampNeg (.int x) → G w Q h' k n pc' Ls rest) : G w Q h k n pc Ls st := by
  subst hp; intro T locs X eT N
  obtain ⟨cl, Ar, hi, -⟩ := arv_inb A q1 q2
  obtain ⟨T', h', X', e', W, s'⟩ := stI X C.ex C.hZ eT Ar (j := j) hi (g := mkF w.m pc Ls st) rfl hs (C.dec hd)
  exact G.to X' e' (fr_snoc N (C.nn ▸ ge)) s' (g h' W)
theorem g_lastore (C : Cx w l Z own bytes mx rt nm rm n0) {a : Addr} {kA : ClassId} {z j : Int32} {vs : List Value} {dv : Value} {x : Int64} (hd : decode bytes pc = .ok (.lastore, 1)) (hs : st = .long x :: .int j :: .ref a :: rest) (A : Arv Z h a kA .long z vs dv) (q1 : ¬ j < 0) (q2 : j < z) (ge : n0 ≤ a) (hp : pc + 1 = pc')
    (g : ∀ h', Wr h h' a j.toNatClampNeg (.long x) → G w Q h' k n pc' Ls rest) : G w Q h k n pc Ls st := by
  subst hp; intro T locs X eT N
  obtain ⟨cl, Ar, hi, -⟩ := arv_inb A q1 q2
  obtain ⟨T', h', X', e', W, s'⟩ := stJ X C.ex C.hZ eT Ar (j := j) hi (g := mkF w.m pc Ls st) rfl hs (C.dec hd)
  exact G.to X' e' (fr_snoc N (C.nn ▸ ge)) s' (g h' W)
theorem g_bastore (C : Cx w l Z own bytes mx rt nm rm n0) {a : Addr} {kA : ClassId} {z j : Int32} {vs : List Value} {dv : Value} {x : Int32} (hd : decode bytes pc = .ok (.bastore, 1)) (hs : st = .int x :: .int j :: .ref a :: rest) (A : Arv Z h a kA .byte z vs dv) (q1 : ¬ j < 0) (q2 : j < z) (ge : n0 ≤ a) (hp : pc + 1 = pc')
    (g : ∀ h', Wr h h' a j.toNatClampNeg (.int (nar .byte x)) → G w Q h' k n pc' Ls rest) : G w Q h k n pc Ls st := by
  subst hp; intro T locs X eT N
  obtain ⟨cl, Ar, hi, -⟩ := arv_inb A q1 q2
  obtain ⟨T', h', X', e', W, s'⟩ := stB X C.ex C.hZ eT Ar (j := j) hi (g := mkF w.m pc Ls st) rfl hs (C.dec hd)
  exact G.to X' e' (fr_snoc N (C.nn ▸ ge)) s' (g h' W)
theorem g_aastore (C : Cx w l Z own bytes mx rt nm rm n0) {a : Addr} {kA : ClassId} {ty : FieldType} {z j : Int32} {vs : List Value} {dv x : Value} (hd : decode bytes pc = .ok (.aastore, 1)) (hs : st = x :: .int j :: .ref a :: rest) (A : Arv Z h a kA ty z vs dv) (hty : ty.isReference = true) (F : Sto Z h a x) (q1 : ¬ j < 0) (q2 : j < z) (ge : n0 ≤ a) (hp : pc + 1 = pc')
    (g : ∀ h', Wr h h' a j.toNatClampNeg x → G w Q h' k n pc' Ls rest) : G w Q h k n pc Ls st := by
  subst hp; intro T locs X eT N
  obtain ⟨cl, Ar, hi, -⟩ := arv_inb A q1 q2
  obtain ⟨T', h', X', e', W, s'⟩ := stR X C.ex C.hZ eT Ar (j := j) hi hty F (g := mkF w.m pc Ls st) rfl hs (C.dec hd)
  exact G.to X' e' (fr_snoc N (C.nn ▸ ge)) s' (g h' W)
/-! returns -/
theorem g_ret (C : Cx w l Z own bytes mx (some t) nm rm n0) {v : Value} {i : Instr} (hd : decode bytes pc = .ok (i, 1)) (hs : st = v :: rest) (hn : narrow t v = v)
    (hi : (i = .ireturn ∧ (t = .int ∨ t = .boolean ∨ t = .byte ∨ t = .char ∨ t = .short) ∧ ∃ z, v = .int z) ∨ (i = .lreturn ∧ t = .long ∧ ∃ z, v = .long z) ∨ (i = .dreturn ∧ t = .double ∧ ∃ z, v = .double z) ∨ (i = .freturn ∧ t = .float ∧ ∃ z, v = .float z) ∨ (i = .areturn ∧ t.isReference = true ∧ v.isRef = true))
    (hk : k ≤ rm.cells) (hnn : n ≤ rm.slots) (q : Q (some v) h) : G w Q h k n pc Ls st := by
  subst hs; intro T locs X eT N
  obtain ⟨fs, hr, hrun, hended, hW, hsame⟩ := X.leave (v := some v) (fun h => by rw [C.ret] at h; cases h) C.lk
  exact ⟨_, _, retOut X C.ex C.ret hn hi (C.dec hd) hr, hrun, hended, _, locs, rfl, ⟨by show Q _ T.heap; rw [eT]; exact q, N⟩, ⟨_, rfl⟩, hW, hsame.mono (by rw [C.ro]; exact hk) (by rw [C.ro]; exact hnn)⟩
theorem g_ireturn (C : Cx w l Z own bytes mx (some .int) nm rm n0) {z : Int32} (hd : decode bytes pc = .ok (.ireturn, 1)) (hs : st = .int z :: rest) (hk : k ≤ rm.cells) (hnn : n ≤ rm.slots) (q : Q (some (.int z)) h) : G w Q h k n pc Ls st :=
  g_ret C hd hs rfl (Or.inl ⟨rfl, Or.inl rfl, z, rfl⟩) hk hnn q
theorem g_zreturn (C : Cx w l Z own bytes mx (some .boolean) nm rm n0) {z : Int32} (hd : decode bytes pc = .ok (.ireturn, 1)) (hs : st = .int z :: rest) (hn : narrow .boolean (.int z) = .int z) (hk : k ≤ rm.cells) (hnn : n ≤ rm.slots) (q : Q (some (.int z)) h) : G w Q h k n pc Ls st :=
  g_ret C hd hs hn (Or.inl ⟨rfl, Or.inr (Or.inl rfl), z, rfl⟩) hk hnn q
theorem g_breturn (C : Cx w l Z own bytes mx (some .byte) nm rm n0) {z : Int32} (hd : decode bytes pc = .ok (.ireturn, 1)) (hs : st = .int z :: rest) (hn : narrow .byte (.int z) = .int z) (hk : k ≤ rm.cells) (hnn : n ≤ rm.slots) (q : Q (some (.int z)) h) : G w Q h k n pc Ls st :=
  g_ret C hd hs hn (Or.inl ⟨rfl, Or.inr (Or.inr (Or.inl rfl)), z, rfl⟩) hk hnn q
theorem g_lreturn (C : Cx w l Z own bytes mx (some .long) nm rm n0) {z : Int64} (hd : decode bytes pc = .ok (.lreturn, 1)) (hs : st = .long z :: rest) (hk : k ≤ rm.cells) (hnn : n ≤ rm.slots) (q : Q (some (.long z)) h) : G w Q h k n pc Ls st :=
  g_ret C hd hs rfl (Or.inr (Or.inl ⟨rfl, rfl, z, rfl⟩)) hk hnn q
theorem g_areturn (C : Cx w l Z own bytes mx (some t) nm rm n0) {v : Value} (hd : decode bytes pc = .ok (.areturn, 1)) (hs : st = v :: rest) (ht : t.isReference = true) (hv : v.isRef = true) (hn : narrow t v = v) (hk : k ≤ rm.cells) (hnn : n ≤ rm.slots) (q : Q (some v) h) : G w Q h k n pc Ls st :=
  g_ret C hd hs hn (Or.inr (Or.inr (Or.inr (Or.inr ⟨rfl, ht, hv⟩)))) hk hnn q
theorem g_return (C : Cx w l Z own bytes mx none nm rm n0) (hd : decode bytes pc = .ok (.return_, 1)) (hs : st = []) (hk : k ≤ rm.cells) (hnn : n ≤ rm.slots) (q : Q none h) : G w Q h k n pc Ls st := by
  subst hs; intro T locs X eT N
  obtain ⟨fs, hr, hrun, hended, hW, hsame⟩ := X.leave (v := none) (fun _ => rfl) C.lk
  exact ⟨_, _, X.returnOut C.ex C.ret (C.dec hd) hr, hrun, hended, _, locs, rfl, ⟨by show Q _ T.heap; rw [eT]; exact q, N⟩, ⟨_, rfl⟩, hW, hsame.mono (by rw [C.ro]; exact hk) (by rw [C.ro]; exact hnn)⟩
/-! calls by the callee's contract -/
theorem g_fin {rm' : Room} {Q' : Option Value → Heap → Prop} {T : State} {locs : List Loc} {as : Array Value} {v : Option Value} {B : Pt} {A : Pt} (C : Cx w l Z own bytes mx rt nm rm n0) (hA : A.locs = locs ∧ A.cells = k ∧ A.slots = n)
    (X' : Stand w.p w.l w.e w.R w.s w.m w.args w.below w.meth w.c B.U B.locs B.cells B.slots) (hQ : ∃ L, (Q' v B.U.heap ∧ Fr n0 L) ∧ B.locs = A.locs ++ L ∧ B.cells = A.cells + rm'.cells ∧ B.slots = A.slots + rm'.slots) (N : Fr w.n0 locs)
    (g : ∀ v h', Q' v h' → G w Q h' (k + rm'.cells) (n + rm'.slots) pc' Ls (psh v rest)) (s' : ∀ t, Steps w.p.tables w.e w.below (B.U.setTop (mkF w.m pc' Ls (v.toList ++ rest))) t → Steps w.p.tables w.e w.below (T.setTop (mkF w.m pc Ls st)) t) : Ends w Q (T.setTop (mkF w.m pc Ls st)) := by
  obtain ⟨T', L', k', n'⟩ := B
  obtain ⟨L, ⟨hq, hL⟩, e1, e2, e3⟩ := hQ
  obtain ⟨a1, a2, a3⟩ := hA
  dsimp only [Pt.U, Pt.locs, Pt.cells, Pt.slots] at X' hq e1 e2 e3 s' a1 a2 a3
  subst a1 a2 a3 e1 e2 e3
  rw [psh_eq] at s'
  exact G.to X' rfl (N.app (C.nn ▸ hL)) s' (g v _ hq)
theorem g_callS (C : Cx w l Z own bytes mx rt nm rm n0) {y : MethodName} {i mL : Nat} {bs : ByteArray} {rt' : Option FieldType} {rm' : Room} {Q' : Option Value → Heap → Prop} {argsL : List Value} {ps : List FieldType} {r : Option FieldType}
    (w1 : (Jvm.Cond.methodLink own i y).before a0 Z = true) (w2 : (Jvm.Cond.static y).before a0 Z = true) (w3 : (Jvm.Cond.initialized y.cls).before a0 Z = true) (w4 : (Jvm.Cond.code y bs mL rt').before a0 Z = true) (hy : y.cls ≠ "java/lang/invoke/MethodHandle" ∧ y.cls ≠ "java/lang/invoke/VarHandle")
    (hd : decode bytes pc = .ok (.invokestatic i, 3)) (pd : parseMethodDescriptor y.desc = some ⟨ps, r⟩) (hlen : argsL.length = ps.length) (hst : st = argsL.reverse ++ rest) (hz : Ls.size = mx)
    (K : Con l Z y bs mL rt' rm' argsL.toArray h n0 Q') (hf : rm'.frames + 1 ≤ rm.frames) (hl : (rest.map fun v => v.category).sum + (mL + 11) + rm'.locals ≤ rm.locals) (hc : k' ≤ rm.cells) (hn : n' ≤ rm.slots) (ek : k + rm'.cells = k') (en : n + rm'.slots = n') (hp : pc + 3 = pc')
    (g : ∀ v h', Q' v h' → G w Q h' k' n' pc' Ls (psh v rest)) : G w Q h k n pc Ls st := by
  subst hp ek en; intro T locs X eT N
  have hl0 : w.l = l := C.1
  subst hl0
  obtain ⟨v, vm₁, B, -, X', hQ, s'⟩ := Jvm.LawKit.callS X C.ex C.ow (mvT C.hZ w1) (mvT C.hZ w2) (mvT C.hZ w3) (mvT C.hZ w4) hy (backOf (W := (rest.map fun v => v.category).sum) (Q := fun v h L => Q' v h ∧ Fr n0 L) (K []) C.hZ w4 w3 (by rw [C.ro]; exact hf) (by rw [C.ro]; exact hl)) (g := mkF w.m pc Ls st) rfl (hz.trans C.ml.symm) (argsL := argsL) (rest := rest) (lenOf pd hlen) hst (by show 2 * 0 + _ ≤ _; omega) (C.dec hd) (fun _ _ => ⟨rfl, eT, by rw [C.ro]; exact hc, by rw [C.ro]; exact hn⟩)
  exact g_fin (T := T) (as := argsL.toArray) (A := (⟨T.setVm vm₁, locs, k, n⟩ : Pt)) C ⟨rfl, rfl, rfl⟩ X' hQ N g s'
theorem g_special (C : Cx w l Z own bytes mx rt nm rm n0) {y : MethodName} {i mL : Nat} {bs : ByteArray} {rm' : Room} {Q' : Option Value → Heap → Prop} {a : Addr} {argsL : List Value} {ps : List FieldType} {r : Option FieldType}
    (w1 : (Jvm.Cond.methodLink own i y).before a0 Z = true) (w2 : (Jvm.Cond.instanceMethod y).before a0 Z = true) (w3 : (Jvm.Cond.initialized y.cls).before a0 Z = true) (w4 : (Jvm.Cond.code y bs mL none).before a0 Z = true) (hy : y.cls ≠ "java/lang/invoke/MethodHandle" ∧ y.cls ≠ "java/lang/invoke/VarHandle") (hy1 : y.name = "<init>")
    (hd : decode bytes pc = .ok (.invokespecial i, 3)) (pd : parseMethodDescriptor y.desc = some ⟨ps, r⟩) (hlen : argsL.length = ps.length) (hst : st = argsL.reverse ++ .ref a :: rest) (hz : Ls.size = mx)
    (K : Con l Z y bs mL none rm' (.ref a :: argsL).toArray h n0 Q') (hf : rm'.frames + 1 ≤ rm.frames) (hl : (rest.map fun v => v.category).sum + (mL + 11) + rm'.locals ≤ rm.locals) (hc : k' ≤ rm.cells) (hn : n' ≤ rm.slots) (ek : k + rm'.cells = k') (en : n + rm'.slots = n') (hp : pc + 3 = pc')
    (g : ∀ v h', Q' v h' → G w Q h' k' n' pc' Ls (psh v rest)) : G w Q h k n pc Ls st := by
  subst hp ek en; intro T locs X eT N
  have hl0 : w.l = l := C.1
  subst hl0
  obtain ⟨v, vm₁, B, -, X', hQ, s'⟩ := X.specialBack C.ex hy1 C.ow (mvT C.hZ w1) (mvT C.hZ w2) (mvT C.hZ w4) hy (backOf (W := (rest.map fun v => v.category).sum) (Q := fun v h L => Q' v h ∧ Fr n0 L) (K []) C.hZ w4 w3 (by rw [C.ro]; exact hf) (by rw [C.ro]; exact hl)) (g := mkF w.m pc Ls st) rfl (hz.trans C.ml.symm) (Steps.refl _) (a := a) (argsL := argsL) (rest := rest) (lenOf pd hlen) hst (by show 2 * 0 + _ ≤ _; omega) (C.dec hd) (fun _ _ => ⟨rfl, eT, by rw [C.ro]; exact hc, by rw [C.ro]; exact hn⟩)
  exact g_fin (T := T) (as := argsL.toArray) (A := (⟨T.setVm vm₁, locs, k, n⟩ : Pt)) C ⟨rfl, rfl, rfl⟩ X' hQ N g (fun t r => s'.trans r)
theorem g_virtual (C : Cx w l Z own bytes mx rt nm rm n0) {y z : MethodName} {B : String} {i mL : Nat} {bs : ByteArray} {rt' : Option FieldType} {rm' : Room} {Q' : Option Value → Heap → Prop} {a : Addr} {argsL : List Value} {ps : List FieldType} {r : Option FieldType}
    (w1 : (Jvm.Cond.methodLink own i y).before a0 Z = true) (w2 : (Jvm.Cond.declares y).before a0 Z = true) (nf : ∀ {s : State}, Z.Warmed39 s.vm → NotFace s y) (ws : (Jvm.Cond.selects B y z).before a0 Z = true) (w5 : (Jvm.Cond.instanceMethod z).before a0 Z = true) (w3 : (Jvm.Cond.initialized z.cls).before a0 Z = true) (w4 : (Jvm.Cond.code z bs mL rt').before a0 Z = true) (hy : y.cls ≠ "java/lang/invoke/MethodHandle" ∧ y.cls ≠ "java/lang/invoke/VarHandle")
    (hd : decode bytes pc = .ok (.invokevirtual i, 3)) (pd : parseMethodDescriptor y.desc = some ⟨ps, r⟩) (hlen : argsL.length = ps.length) (hst : st = argsL.reverse ++ .ref a :: rest) (hz : Ls.size = mx) (E : Exa Z h a B)
    (K : Con l Z z bs mL rt' rm' (.ref a :: argsL).toArray h n0 Q') (hf : rm'.frames + 1 ≤ rm.frames) (hl : (rest.map fun v => v.category).sum + (mL + 11) + rm'.locals ≤ rm.locals) (hc : k' ≤ rm.cells) (hn : n' ≤ rm.slots) (ek : k + rm'.cells = k') (en : n + rm'.slots = n') (hp : pc + 3 = pc')
    (g : ∀ v h', Q' v h' → G w Q h' k' n' pc' Ls (psh v rest)) : G w Q h k n pc Ls st := by
  subst hp ek en; intro T locs X eT N
  have hl0 : w.l = l := C.1
  subst hl0
  obtain ⟨cq, kq, q1, q2, q3⟩ := isOf C.hZ eT E
  obtain ⟨v, vm₁, B, -, X', hQ, s'⟩ := X.virtualBack C.ex C.ow (mvT C.hZ w1) (mvT C.hZ w2) (nf C.hZ) (mvT C.hZ ws) (mvT C.hZ w5) hy (backOf (W := (rest.map fun v => v.category).sum) (Q := fun v h L => Q' v h ∧ Fr n0 L) (K []) C.hZ w4 w3 (by rw [C.ro]; exact hf) (by rw [C.ro]; exact hl)) q1 q3 (g := mkF w.m pc Ls st) rfl (hz.trans C.ml.symm) (Steps.refl _) (argsL := argsL) (rest := rest) (lenOf pd hlen) hst (by show 2 * 0 + _ ≤ _; omega) (C.dec hd) (fun _ _ => ⟨rfl, eT, by rw [C.ro]; exact hc, by rw [C.ro]; exact hn⟩)
  exact g_fin (T := T) (as := argsL.toArray) (A := (⟨T.setVm vm₁, locs, k, n⟩ : Pt)) C ⟨rfl, rfl, rfl⟩ X' hQ N g (fun t r => s'.trans r)
theorem nfSel {y : MethodName} {B : String} (ws : (Jvm.Cond.selects B y y).before a0 Z = true) : ∀ {s : State}, Z.Warmed39 s.vm → NotFace s y := fun hZ => notFace_of_selects (args := #[]) (mvT hZ ws)
theorem g_virtualUp (C : Cx w l Z own bytes mx rt nm rm n0) {y z : MethodName} {B owner : String} {i mL : Nat} {bs : ByteArray} {rt' : Option FieldType} {rm' : Room} {Q' : Option Value → Heap → Prop} {a : Addr} {argsL : List Value} {ps : List FieldType} {r : Option FieldType}
    (w1 : (Jvm.Cond.methodLink own i y).before a0 Z = true) (wm : (Jvm.Cond.sameMethod y.cls owner y.name y.desc).before a0 Z = true) (w2 : (Jvm.Cond.declares ⟨owner, y.name, y.desc⟩).before a0 Z = true) (ho : owner ≠ "java/lang/invoke/MethodHandle" ∧ owner ≠ "java/lang/invoke/VarHandle") (ws : (Jvm.Cond.selects B y z).before a0 Z = true) (w5 : (Jvm.Cond.instanceMethod z).before a0 Z = true) (w3 : (Jvm.Cond.initialized z.cls).before a0 Z = true) (w4 : (Jvm.Cond.code z bs mL rt').before a0 Z = true)
    (hd : decode bytes pc = .ok (.invokevirtual i, 3)) (pd : parseMethodDescriptor y.desc = some ⟨ps, r⟩) (hlen : argsL.length = ps.length) (hst : st = argsL.reverse ++ .ref a :: rest) (hz : Ls.size = mx) (E : Exa Z h a B)
    (K : Con l Z z bs mL rt' rm' (.ref a :: argsL).toArray h n0 Q') (hf : rm'.frames + 1 ≤ rm.frames) (hl : (rest.map fun v => v.category).sum + (mL + 11) + rm'.locals ≤ rm.locals) (hc : k' ≤ rm.cells) (hn : n' ≤ rm.slots) (ek : k + rm'.cells = k') (en : n + rm'.slots = n') (hp : pc + 3 = pc')
    (g : ∀ v h', Q' v h' → G w Q h' k' n' pc' Ls (psh v rest)) : G w Q h k n pc Ls st := by
  subst hp ek en; intro T locs X eT N
  have hl0 : w.l = l := C.1
  subst hl0
  obtain ⟨cq, kq, q1, q2, q3⟩ := isOf C.hZ eT E
  obtain ⟨v, vm₁, B, -, X', hQ, s'⟩ := X.virtualBackUp C.ex C.ow (mvT C.hZ w1) (mvT C.hZ wm) (mvT C.hZ w2) ho (mvT C.hZ ws) (mvT C.hZ w5) (backOf (W := (rest.map fun v => v.category).sum) (Q := fun v h L => Q' v h ∧ Fr n0 L) (K []) C.hZ w4 w3 (by rw [C.ro]; exact hf) (by rw [C.ro]; exact hl)) q1 q3 (g := mkF w.m pc Ls st) rfl (hz.trans C.ml.symm) (Steps.refl _) (argsL := argsL) (rest := rest) (lenOf pd hlen) hst (by show 2 * 0 + _ ≤ _; omega) (C.dec hd) (fun _ _ => ⟨rfl, eT, by rw [C.ro]; exact hc, by rw [C.ro]; exact hn⟩)
  exact g_fin (T := T) (as := argsL.toArray) (A := (⟨T.setVm vm₁, locs, k, n⟩ : Pt)) C ⟨rfl, rfl, rfl⟩ X' hQ N g (fun t r => s'.trans r)
theorem g_interface (C : Cx w l Z own bytes mx rt nm rm n0) {y z : MethodName} {B : String} {count : Nat} {i mL : Nat} {bs : ByteArray} {rt' : Option FieldType} {rm' : Room} {Q' : Option Value → Heap → Prop} {a : Addr} {argsL : List Value} {ps : List FieldType} {r : Option FieldType}
    (w1 : (Jvm.Cond.methodLink own i y).before a0 Z = true) (w2 : (Jvm.Cond.declares y).before a0 Z = true) (wf : (Jvm.Cond.interfaceMethod y.cls y.cls y.name y.desc).before a0 Z = true) (hfa : ((Jvm.Cond.interfaceMethod y.cls y.cls y.name y.desc).onTables && (Jvm.Cond.interfaceMethod y.cls y.cls y.name y.desc).keepsFace) = true) (ws : (Jvm.Cond.selects B y z).before a0 Z = true) (w5 : (Jvm.Cond.instanceMethod z).before a0 Z = true) (wp : (Jvm.Cond.publicMethod z).before a0 Z = true) (wu : (Jvm.Cond.unhidden B y.name y.desc).before a0 Z = true) (wk : (Jvm.Cond.castable B y.cls).before a0 Z = true) (w3 : (Jvm.Cond.initialized z.cls).before a0 Z = true) (w4 : (Jvm.Cond.code z bs mL rt').before a0 Z = true) (hy : y.cls ≠ "java/lang/invoke/MethodHandle" ∧ y.cls ≠ "java/lang/invoke/VarHandle")
    (hd : decode bytes pc = .ok (.invokeinterface i count, 5)) (pd : parseMethodDescriptor y.desc = some ⟨ps, r⟩) (hlen : argsL.length = ps.length) (hst : st = argsL.reverse ++ .ref a :: rest) (hz : Ls.size = mx) (E : Exa Z h a B)
    (K : Con l Z z bs mL rt' rm' (.ref a :: argsL).toArray h n0 Q') (hf : rm'.frames + 1 ≤ rm.frames) (hl : (rest.map fun v => v.category).sum + (mL + 11) + rm'.locals ≤ rm.locals) (hc : k' ≤ rm.cells) (hn : n' ≤ rm.slots) (ek : k + rm'.cells = k') (en : n + rm'.slots = n') (hp : pc + 5 = pc')
    (g : ∀ v h', Q' v h' → G w Q h' k' n' pc' Ls (psh v rest)) : G w Q h k n pc Ls st := by
  subst hp ek en; intro T locs X eT N
  have hl0 : w.l = l := C.1
  subst hl0
  obtain ⟨cq, kq, q1, q2, q3⟩ := isOf C.hZ eT E
  obtain ⟨v, vm₁, B, -, X', hQ, s'⟩ := X.interfaceBack C.ex C.ow (mvT C.hZ w1) (mvT C.hZ w2) (mvT C.hZ wf hfa) (mvT C.hZ ws) (mvT C.hZ w5) (mvT C.hZ wp) (mvT C.hZ wu) (mvT C.hZ wk) hy (backOf (W := (rest.map fun v => v.category).sum) (Q := fun v h L => Q' v h ∧ Fr n0 L) (K []) C.hZ w4 w3 (by rw [C.ro]; exact hf) (by rw [C.ro]; exact hl)) q1 q2 q3 (g := mkF w.m pc Ls st) rfl (hz.trans C.ml.symm) (Steps.refl _) (argsL := argsL) (rest := rest) (lenOf pd hlen) hst (by show 2 * 0 + _ ≤ _; omega) (C.dec hd) (fun _ _ => ⟨rfl, eT, by rw [C.ro]; exact hc, by rw [C.ro]; exact hn⟩)
  exact g_fin (T := T) (as := argsL.toArray) (A := (⟨T.setVm vm₁, locs, k, n⟩ : Pt)) C ⟨rfl, rfl, rfl⟩ X' hQ N g (fun t r => s'.trans r)
theorem g_private (C : Cx w l Z own bytes mx rt nm rm n0) {y : MethodName} {B : String} {kk i mL : Nat} {bs : ByteArray} {rt' : Option FieldType} {rm' : Room} {Q' : Option Value → Heap → Prop} {a : Addr} {argsL : List Value} {ps : List FieldType} {r : Option FieldType}
    (w1 : (Jvm.Cond.methodLink own i y).before a0 Z = true) (w5 : (Jvm.Cond.instanceMethod y).before a0 Z = true) (wi : (Jvm.Cond.instantiable y.cls kk).before a0 Z = true) (wp : (Jvm.Cond.privateMethod y).before a0 Z = true) (w3 : (Jvm.Cond.initialized y.cls).before a0 Z = true) (w4 : (Jvm.Cond.code y bs mL rt').before a0 Z = true) (hy : y.cls ≠ "java/lang/invoke/MethodHandle" ∧ y.cls ≠ "java/lang/invoke/VarHandle")
    (hd : decode bytes pc = .ok (.invokevirtual i, 3)) (pd : parseMethodDescriptor y.desc = some ⟨ps, r⟩) (hlen : argsL.length = ps.length) (hst : st = argsL.reverse ++ .ref a :: rest) (hz : Ls.size = mx) (E : Exa Z h a B)
    (K : Con l Z y bs mL rt' rm' (.ref a :: argsL).toArray h n0 Q') (hf : rm'.frames + 1 ≤ rm.frames) (hl : (rest.map fun v => v.category).sum + (mL + 11) + rm'.locals ≤ rm.locals) (hc : k' ≤ rm.cells) (hn : n' ≤ rm.slots) (ek : k + rm'.cells = k') (en : n + rm'.slots = n') (hp : pc + 3 = pc')
    (g : ∀ v h', Q' v h' → G w Q h' k' n' pc' Ls (psh v rest)) : G w Q h k n pc Ls st := by
  subst hp ek en; intro T locs X eT N
  have hl0 : w.l = l := C.1
  subst hl0
  obtain ⟨cq, q1, q2⟩ := E.cell
  have wi' : (Jvm.Cond.instantiable y.cls kk).before w.args w.s = true := mvT C.hZ wi
  obtain ⟨c2, k2, i1, i2, -, i4, -⟩ := Cond.instantiable_spec wi'
  have hni : k2.isInterface = false := (Bool.or_eq_false_iff.mp i4).1
  have hpv := Cond.privateMethod_at (mvP C.hZ wp (args := w.args))
  obtain ⟨v, vm₁, B, -, X', hQ, s'⟩ := X.privateBack C.ex C.ow (mvT C.hZ w1) (mvT C.hZ w5) (selects_self_of_private i1 i2 hni hpv (mvT C.hZ w5) hy) hpv (mvT C.hZ w4) hy (backOf (W := (rest.map fun v => v.category).sum) (Q := fun v h L => Q' v h ∧ Fr n0 L) (K []) C.hZ w4 w3 (by rw [C.ro]; exact hf) (by rw [C.ro]; exact hl)) (g := mkF w.m pc Ls st) rfl (hz.trans C.ml.symm) (Steps.refl _) (a := a) (by rw [eT]; exact q1) q2 (argsL := argsL) (rest := rest) (lenOf pd hlen) hst (by show 2 * 0 + _ ≤ _; omega) (C.dec hd) (fun _ _ => ⟨rfl, eT, by rw [C.ro]; exact hc, by rw [C.ro]; exact hn⟩)
  exact g_fin (T := T) (as := argsL.toArray) (A := (⟨T.setVm vm₁, locs, k, n⟩ : Pt)) C ⟨rfl, rfl, rfl⟩ X' hQ N g (fun t r => s'.trans r)
theorem g_lswHit (C : Cx w l Z own bytes mx rt nm rm n0) {df : Int} {prs : Array (Int × Int)} {len : Nat} {a o : Int} {i : Int32} (hd : decode bytes pc = .ok (.lookupswitch df prs, len)) (hs : st = .int i :: rest) (hso : (prs.toList.zip (prs.toList.drop 1)).all (fun (a, next) => a.1 < next.1) = true) (hf : prs.find? (·.1 == i.toInt) = some (a, o)) (ho : 0 ≤ (pc : Int) + o) (hp : ((pc : Int) + o).toNat = pc') (g : G w Q h k n pc' Ls rest) : G w Q h k n pc Ls st := by
  subst hp; exact g.adv fun T locs X _ t r => X.lookupswitchHit C.ex (g := mkF w.m pc Ls st) rfl hs (C.dec hd) hso hf ho t r
theorem g_lswMiss (C : Cx w l Z own bytes mx rt nm rm n0) {df : Int} {prs : Array (Int × Int)} {len : Nat} {i : Int32} (hd : decode bytes pc = .ok (.lookupswitch df prs, len)) (hs : st = .int i :: rest) (hso : (prs.toList.zip (prs.toList.drop 1)).all (fun (a, next) => a.1 < next.1) = true) (hf : prs.find? (·.1 == i.toInt) = none) (ho : 0 ≤ (pc : Int) + df) (hp : ((pc : Int) + df).toNat = pc') (g : G w Q h k n pc' Ls rest) : G w Q h k n pc Ls st := by
  subst hp; exact g.adv fun T locs X _ t r => X.lookupswitchMiss C.ex (g := mkF w.m pc Ls st) rfl hs (C.dec hd) hso hf ho t r
end Gs
theorem wd {Z : State} {a0 : Array Value} (hw : ∀ d ∈ tables_1, d.before a0 Z = true) (i : Nat) {d : Jvm.Cond} (e : tables_1[i]? = some d) : d.before a0 Z = true := hw _ (List.mem_of_getElem? e)
theorem own_fldInt {args : Array Value} {s : State} {t : Term} {a : Addr} {C f d : String} {k : Int32} (ev : t.eval args s none [] s = some (.ref a)) (h : (Jvm.Cond.eq (.field t C f d) (.int k)).value args s none s [] = some true) : Fld s s.heap a C f d (.int k) := by
  obtain ⟨x, y, hx, hy, k1, k2⟩ := cmp_v (Or.inl h)
  cases (Term.int_eval k).symm.trans hy
  obtain ⟨z, rfl⟩ : ∃ z, x = .int z := by simpa [Kin] using k2
  have e : z = k := by simpa [Jvm.Cond.value, hx, hy] using h
  subst e
  rw [fld_at ev] at hx
  exact Fld.start hx
theorem own_fldLong {args : Array Value} {s : State} {t : Term} {a : Addr} {C f d : String} {k : Int64} (ev : t.eval args s none [] s = some (.ref a)) (h : (Jvm.Cond.eq (.field t C f d) (.long k)).value args s none s [] = some true) : Fld s s.heap a C f d (.long k) := by
  obtain ⟨x, y, hx, hy, k1, k2⟩ := cmp_v (Or.inl h)
  cases (long_at k).symm.trans hy
  obtain ⟨z, rfl⟩ : ∃ z, x = .long z := by simpa [Kin] using k2
  have e : z = k := by simpa [Jvm.Cond.value, hx, hy] using h
  subst e
  rw [fld_at ev] at hx
  exact Fld.start hx
theorem own_staLong {args : Array Value} {s : State} {t : Term} {k : Int64} (h : (Jvm.Cond.eq t (.long k)).value args s none s [] = some true) : t.eval args s none [] s = some (.long k) := by
  obtain ⟨x, y, hx, hy, k1, k2⟩ := cmp_v (Or.inl h)
  cases (long_at k).symm.trans hy
  obtain ⟨z, rfl⟩ : ∃ z, x = .long z := by simpa [Kin] using k2
  have e : z = k := by simpa [Jvm.Cond.value, hx, hy] using h
  subst e
  exact hx
theorem own_staInt {args : Array Value} {s : State} {t : Term} {k : Int32} (h : (Jvm.Cond.eq t (.int k)).value args s none s [] = some true) : t.eval args s none [] s = some (.int k) := by
  obtain ⟨x, y, hx, hy, k1, k2⟩ := cmp_v (Or.inl h)
  cases (Term.int_eval k).symm.trans hy
  obtain ⟨z, rfl⟩ : ∃ z, x = .int z := by simpa [Kin] using k2
  have e : z = k := by simpa [Jvm.Cond.value, hx, hy] using h
  subst e
  exact hx
theorem own_ine {i j : Int32} (h : i ≠ j) : (Value.int i) ≠ .int j := fun q => h (by injection q)
theorem own_mask31 (x : Int32) : 0 ≤ (x &&& 2147483647).toInt ∧ (x &&& 2147483647).toInt < 2147483648 := by
  have := c_mask x 2147483647 31 (by decide) (by decide)
  rw [this]; omega
/-! class objects, a negative instanceof, a constructor through a nest -/
section Jdk
variable {w : Wk} {l : Launch} {Z : State} {own : String} {bytes : ByteArray} {mx : Nat} {rt : Option FieldType} {nm : String} {rm : Room} {n0 : Nat} {Q : Option Value → Heap → Prop} {h : Heap} {k n pc pc' : Nat} {Ls Ls' : Array Slot} {st rest : List Value} {a0 : Array Value} {t : FieldType} {k' n' : Nat}
theorem g_ldcMirror (C : Cx w l Z own bytes mx rt nm rm n0) {K : String} {i : Nat} {mr : Addr} (hw : (Jvm.Cond.classLink own i K).before a0 Z = true) (M : Mir Z K mr) (hd : decode bytes pc = .ok (.ldc i, 2)) (hp : pc + 2 = pc') (g : G w Q h k n pc' Ls (.ref mr :: st)) : G w Q h k n pc Ls st := by
  subst hp; intro T locs X eT N
  obtain ⟨cc, kc, m1, m2, m3, -⟩ := M
  obtain ⟨k1, q, ek⟩ := C.hZ.alike.2.2 _ _ m2
  have e1 : w.s.vm.findClass K = some cc := by rw [C.hZ.alike.findClass]; exact m1
  have e2 : k1.mirror = some mr := by rw [ek]; exact m3
  have hev : (Term.mirror K).eval w.args w.s none [] w.s = some (.ref mr) := by simp [Term.eval, e1, q, e2]
  obtain ⟨vm', X', s'⟩ := X.ldcMirror C.ex C.ow (mvT C.hZ hw) hev (g := mkF w.m pc Ls st) rfl (C.dec hd)
  exact G.to X' eT N s' g
theorem g_getClass (C : Cx w l Z own bytes mx rt nm rm n0) {K : String} {i : Nat} {a mr : Addr} (w1 : (Jvm.Cond.methodLink own i ⟨"java/lang/Object", "getClass", "()Ljava/lang/Class;"⟩).before a0 Z = true) (w2 : (Jvm.Cond.declares ⟨"java/lang/Object", "getClass", "()Ljava/lang/Class;"⟩).before a0 Z = true) (w3 : (Jvm.Cond.noSuperclass "java/lang/Object").before a0 Z = true) (w4 : (Jvm.Cond.selects K ⟨"java/lang/Object", "getClass", "()Ljava/lang/Class;"⟩ ⟨"java/lang/Object", "getClass", "()Ljava/lang/Class;"⟩).before a0 Z = true)
    (w5 : (Jvm.Cond.instanceMethod ⟨"java/lang/Object", "getClass", "()Ljava/lang/Class;"⟩).before a0 Z = true) (w6 : (Jvm.Cond.native ⟨"java/lang/Object", "getClass", "()Ljava/lang/Class;"⟩).before a0 Z = true) (hd : decode bytes pc = .ok (.invokevirtual i, 3)) (hs : st = .ref a :: rest) (hz : Ls.size = mx) (E : Exa Z h a K) (M : Mir Z K mr) (hf : 1 ≤ rm.frames) (hl : (rest.map fun v => v.category).sum + (nativeFrameWords "java/lang/Object" "getClass" 1 + 11) ≤ rm.locals) (hp : pc + 3 = pc') (g : G w Q h k n pc' Ls (.ref mr :: rest)) : G w Q h k n pc Ls st := by
  subst hp; intro T locs X eT N
  obtain ⟨T', X', e', s'⟩ := gcls X C.ex C.hZ C.ow w1 w2 w3 w4 w5 w6 eT E M (g := mkF w.m pc Ls st) rfl (hz.trans C.ml.symm) hs (C.dec hd) (by rw [C.ro]; exact hf) (W := (rest.map fun v => v.category).sum) (by show 2 * 0 + _ ≤ _; omega) (by rw [C.ro]; exact hl)
  exact G.to X' e' N s' g
theorem g_specialNest (C : Cx w l Z own bytes mx rt nm rm n0) {y : MethodName} {host : String} {i mL : Nat} {bs : ByteArray} {rm' : Room} {Q' : Option Value → Heap → Prop} {a : Addr} {argsL : List Value} {ps : List FieldType} {r : Option FieldType}
    (w1 : (Jvm.Cond.methodLinkNest own i y host).before a0 Z = true) (w2 : (Jvm.Cond.instanceMethod y).before a0 Z = true) (w3 : (Jvm.Cond.initialized y.cls).before a0 Z = true) (w4 : (Jvm.Cond.code y bs mL none).before a0 Z = true) (hy : y.cls ≠ "java/lang/invoke/MethodHandle" ∧ y.cls ≠ "java/lang/invoke/VarHandle") (hy1 : y.name = "<init>")
    (hd : decode bytes pc = .ok (.invokespecial i, 3)) (pd : parseMethodDescriptor y.desc = some ⟨ps, r⟩) (hlen : argsL.length = ps.length) (hst : st = argsL.reverse ++ .ref a :: rest) (hz : Ls.size = mx)
    (K : Con l Z y bs mL none rm' (.ref a :: argsL).toArray h n0 Q') (hf : rm'.frames + 1 ≤ rm.frames) (hl : (rest.map fun v => v.category).sum + (mL + 11) + rm'.locals ≤ rm.locals) (hc : k' ≤ rm.cells) (hn : n' ≤ rm.slots) (ek : k + rm'.cells = k') (en : n + rm'.slots = n') (hp : pc + 3 = pc')
    (g : ∀ v h', Q' v h' → G w Q h' k' n' pc' Ls (psh v rest)) : G w Q h k n pc Ls st := by
  subst hp ek en; intro T locs X eT N
  have hl0 : w.l = l := C.1
  subst hl0
  obtain ⟨v, vm₁, B, -, X', hQ, s'⟩ := X.specialBackNest C.ex hy1 C.ow ((Cond.methodLinkNest_wide C.hZ w1 :) : (Jvm.Cond.methodLinkNest own i y host).before w.args w.s = true) (mvT C.hZ w2) (mvT C.hZ w4) hy (backOf (W := (rest.map fun v => v.category).sum) (Q := fun v h L => Q' v h ∧ Fr n0 L) (K []) C.hZ w4 w3 (by rw [C.ro]; exact hf) (by rw [C.ro]; exact hl)) (g := mkF w.m pc Ls st) rfl (hz.trans C.ml.symm) (Steps.refl _) (a := a) (argsL := argsL) (rest := rest) (lenOf pd hlen) hst (by show 2 * 0 + _ ≤ _; omega) (C.dec hd) (fun _ _ => ⟨rfl, eT, by rw [C.ro]; exact hc, by rw [C.ro]; exact hn⟩)
  exact g_fin (T := T) (as := argsL.toArray) (A := (⟨T.setVm vm₁, locs, k, n⟩ : Pt)) C ⟨rfl, rfl, rfl⟩ X' hQ N g (fun t r => s'.trans r)
theorem g_newRE (C : Cx w l Z own bytes mx rt nm rm n0) {K ad : String} {i : Nat} {z : Int32} {cap : Nat} (hw : (Jvm.Cond.classLink own i K).before a0 Z = true) (w2 : (Jvm.Cond.arrayOver (.object K)).before a0 Z = true) (had : "[" ++ (FieldType.object K).toString = ad) (hd : decode bytes pc = .ok (.anewarray i, 3)) (hs : st = .int z :: rest) (hn : ¬ z < 0) (hcap : z.toNatClampNeg ≤ cap) (hb' : cap * 8 ≤ 536870912) (hc : k' ≤ rm.cells) (hl : n' ≤ rm.slots) (ek : k + 1 = k') (en : n + cap = n') (hp : pc + 3 = pc')
    (g : ∀ h' a kA, a = h.size → Ext h h' → Arv Z h' a kA (.object K) z [] .null → Exa Z h' a ad → Ovr Z kA K → G w Q h' k' n' pc' Ls (.ref a :: rest)) : G w Q h k n pc Ls st := by
  subst hp ek en; intro T locs X eT N
  obtain ⟨T', h', kA, X', e', E, A, B, O, s'⟩ := newRE X C.ex C.hZ C.ow hw w2 eT (g := mkF w.m pc Ls st) rfl (C.dec hd) hs hn hcap hb' (by rw [C.ro]; exact hc) (by rw [C.ro]; exact hl) had
  exact G.to X' e' N s' (g h' _ kA rfl E (Arv.new A hn) B O)
theorem ns_root {O K : String} {kk : Nat} (w0 : (Jvm.Cond.noSuperclass O).before a0 Z = true) (wk : (Jvm.Cond.instantiable K kk).before a0 Z = true) (hn : O ≠ K) : NS Z O K := by
  obtain ⟨c, k, h1, h2, h3, -, -⟩ := Cond.noSuperclass_spec w0
  obtain ⟨t, k2, g1, -⟩ := Cond.instantiable_spec wk
  have ne := ids_ne h1 g1 hn
  refine ⟨c, t, h1, g1, fun fuel => ?_⟩
  cases fuel with
  | zero => rfl
  | succ f => simp [Vm.isSubclassAux, ne, h2, h3]
theorem ns_no {B S K : String} {kk : Nat} (w0 : (Jvm.Cond.superclass B S).before a0 Z = true) (wk : (Jvm.Cond.instantiable K kk).before a0 Z = true) (n : NS Z B K) (hn : B ≠ K) : ∃ c t, Z.vm.findClass B = some c ∧ Z.vm.findClass K = some t ∧ Z.vm.assignable c t = false := by
  obtain ⟨c, t, h0, g0, n3⟩ := n
  obtain ⟨p, k, kp, h1, h2, h3, h4, h5, -, h7⟩ := Cond.superclass_spec h0 w0
  obtain ⟨t2, k2, g1, g2, g3, g4, -⟩ := Cond.instantiable_spec wk
  cases g0.symm.trans g1
  have ne := ids_ne h0 g0 hn
  have g7 : k2.isInterface = false := (Bool.or_eq_false_iff.mp g4).1
  refine ⟨c, t, h0, g0, ?_⟩
  show Z.vm.assignableAux (255 + 1) c t = false
  simp [Vm.assignableAux, ne, h2, g2, h5, g3, g7, Vm.isSubclass, n3]
end Jdk
theorem own_fldRef {args : Array Value} {s : State} {t : Term} {a b : Addr} {C f d : String} (ev : t.eval args s none [] s = some (.ref a)) (h : (Term.field t C f d).eval args s none [] s = some (.ref b)) : Fld s s.heap a C f d (.ref b) := by
  rw [fld_at ev] at h
  exact Fld.start h
theorem own_emptyA {s : State} {args : Array Value} {t : Term} {a : Addr} {ty : FieldType} {dv : Value} (ev : t.eval args s none [] s = some (.ref a)) (ha : (Jvm.Cond.arrayOf t ty).value args s none s [] = some true) (hl : (Jvm.Cond.eq (.length t) (.int (0 : Int32))).value args s none s [] = some true) : ∃ kE, Arv s s.heap a kE ty (0 : Int32) [] dv := by
  obtain ⟨c, A⟩ := Arr.start ev ha
  have hc := A.fin (Vm.Alike.refl _)
  have e := own_staInt hl
  have hi : (Jvm.Cond.isInt (.length t)).before args s = true := Cond.before_iff.mpr (by simp [Jvm.Cond.value, e])
  have sm := Cond.small_of_lengthOf ev hc hi
  obtain ⟨x, c', e1, e2, e3⟩ := Term.length_spec e
  cases ev.symm.trans e1
  cases hc.symm.trans e2
  have q : c.slots.size.toInt32 = 0 := by injection e3 with e4; exact e4.symm
  have z : c.slots.size = 0 := by
    have r := len_toInt sm
    rw [q] at r
    have e0 : (0 : Int32).toInt = 0 := by decide
    omega
  exact ⟨c.cls, c, A, rfl, by rw [z]; rfl, by decide, fun k hk => absurd hk (by omega), fun i hi => absurd hi (by omega)⟩

def En (Z : State) (s_BOOL : Addr) (s_I16 : Addr) (s_I32 : Addr) (s_BYTE : Addr) (s_DOUBLE : Addr) (s_I64 : Addr) (s_MAP : Addr) (s_STRUCT : Addr) (s_LIST : Addr) (s_SET : Addr) (s_STRING : Addr) (s_DEF : Addr) : Prop := (Sta Z Z.heap "com/example/strictwire/strictwire/WireType" "BOOL" "Lcom/example/strictwire/strictwire/WireType;" (.ref s_BOOL)) ∧ (Exa Z Z.heap s_BOOL "com/example/strictwire/strictwire/WireType") ∧ (Sta Z Z.heap "com/example/strictwire/strictwire/WireType" "I16" "Lcom/example/strictwire/strictwire/WireType;" (.ref s_I16)) ∧ (Exa Z Z.heap s_I16 "com/example/strictwire/strictwire/WireType") ∧ (Sta Z Z.heap "com/example/strictwire/strictwire/WireType" "I32" "Lcom/example/strictwire/strictwire/WireType;" (.ref s_I32)) ∧ (Exa Z Z.heap s_I32 "com/example/strictwire/strictwire/WireType") ∧ (Sta Z Z.heap "com/example/strictwire/strictwire/WireType" "BYTE" "Lcom/example/strictwire/strictwire/WireType;" (.ref s_BYTE)) ∧ (Exa Z Z.heap s_BYTE "com/example/strictwire/strictwire/WireType") ∧ (Sta Z Z.heap "com/example/strictwire/strictwire/WireType" "DOUBLE" "Lcom/example/strictwire/strictwire/WireType;" (.ref s_DOUBLE)) ∧ (Exa Z Z.heap s_DOUBLE "com/example/strictwire/strictwire/WireType") ∧ (Sta Z Z.heap "com/example/strictwire/strictwire/WireType" "I64" "Lcom/example/strictwire/strictwire/WireType;" (.ref s_I64)) ∧ (Exa Z Z.heap s_I64 "com/example/strictwire/strictwire/WireType") ∧ (Sta Z Z.heap "com/example/strictwire/strictwire/WireType" "MAP" "Lcom/example/strictwire/strictwire/WireType;" (.ref s_MAP)) ∧ (Exa Z Z.heap s_MAP "com/example/strictwire/strictwire/WireType") ∧ (Sta Z Z.heap "com/example/strictwire/strictwire/WireType" "STRUCT" "Lcom/example/strictwire/strictwire/WireType;" (.ref s_STRUCT)) ∧ (Exa Z Z.heap s_STRUCT "com/example/strictwire/strictwire/WireType") ∧ (Sta Z Z.heap "com/example/strictwire/strictwire/WireType" "LIST" "Lcom/example/strictwire/strictwire/WireType;" (.ref s_LIST)) ∧ (Exa Z Z.heap s_LIST "com/example/strictwire/strictwire/WireType") ∧ (Sta Z Z.heap "com/example/strictwire/strictwire/WireType" "SET" "Lcom/example/strictwire/strictwire/WireType;" (.ref s_SET)) ∧ (Exa Z Z.heap s_SET "com/example/strictwire/strictwire/WireType") ∧ (Sta Z Z.heap "com/example/strictwire/strictwire/WireType" "STRING" "Lcom/example/strictwire/strictwire/WireType;" (.ref s_STRING)) ∧ (Exa Z Z.heap s_STRING "com/example/strictwire/strictwire/WireType") ∧ (Fld Z Z.heap s_I32 "java/lang/Enum" "ordinal" "I" (.int (4 : Int32))) ∧ (Fld Z Z.heap s_I64 "java/lang/Enum" "ordinal" "I" (.int (5 : Int32))) ∧ (Fld Z Z.heap s_I16 "java/lang/Enum" "ordinal" "I" (.int (3 : Int32))) ∧ (Fld Z Z.heap s_DOUBLE "java/lang/Enum" "ordinal" "I" (.int (2 : Int32))) ∧ (Fld Z Z.heap s_BYTE "java/lang/Enum" "ordinal" "I" (.int (1 : Int32))) ∧ (Fld Z Z.heap s_BOOL "java/lang/Enum" "ordinal" "I" (.int (0 : Int32))) ∧ (Fld Z Z.heap s_LIST "java/lang/Enum" "ordinal" "I" (.int (10 : Int32))) ∧ (Fld Z Z.heap s_SET "java/lang/Enum" "ordinal" "I" (.int (9 : Int32))) ∧ (Fld Z Z.heap s_STRUCT "java/lang/Enum" "ordinal" "I" (.int (7 : Int32))) ∧ (Fld Z Z.heap s_STRING "java/lang/Enum" "ordinal" "I" (.int (6 : Int32))) ∧ (Fld Z Z.heap s_MAP "java/lang/Enum" "ordinal" "I" (.int (8 : Int32))) ∧ (Sta Z Z.heap "java/util/ArrayList" "DEFAULTCAPACITY_EMPTY_ELEMENTDATA" "[Ljava/lang/Object;" (.ref s_DEF)) ∧ (Exa Z Z.heap s_DEF "[Ljava/lang/Object;") ∧ (∃ kE, Arv Z Z.heap s_DEF kE (.object "java/lang/Object") (0 : Int32) [] .null)
def AL0 (Z : State) (n0 : Nat) (h : Heap) (a ed : Addr) (mc : Int32) : Prop := n0 ≤ a ∧ Exa Z h a "java/util/ArrayList" ∧ Fld Z h a "java/util/AbstractList" "modCount" "I" (.int mc) ∧ Fld Z h a "java/util/ArrayList" "elementData" "[Ljava/lang/Object;" (.ref ed) ∧ Fld Z h a "java/util/ArrayList" "size" "I" (.int (0 : Int32))
def AL1 (Z : State) (n0 : Nat) (h : Heap) (a ed : Addr) (kE : ClassId) (mc s : Int32) (vs : List Value) : Prop := n0 ≤ a ∧ n0 ≤ ed ∧ a ≠ ed ∧ Ovr Z kE "java/lang/Object" ∧ Exa Z h a "java/util/ArrayList" ∧ Exa Z h ed "[Ljava/lang/Object;" ∧ Fld Z h a "java/util/AbstractList" "modCount" "I" (.int mc) ∧ Fld Z h a "java/util/ArrayList" "elementData" "[Ljava/lang/Object;" (.ref ed) ∧ Fld Z h a "java/util/ArrayList" "size" "I" (.int s) ∧ Arv Z h ed kE (.object "java/lang/Object") (10 : Int32) vs .null
theorem own_AL0_keep {Z : State} {n0 : Nat} {h h' : Heap} {ws : List Addr} {a ed : Addr} {mc : Int32} (P : AL0 Z n0 h a ed mc) (K : Keep h h' ws) (q : a ∉ ws) : AL0 Z n0 h' a ed mc := by
  obtain ⟨g, E, F1, F2, F3⟩ := P; exact ⟨g, E.keep K, F1.keep K q, F2.keep K q, F3.keep K q⟩
theorem own_AL0_ext {Z : State} {n0 : Nat} {h h' : Heap} {a ed : Addr} {mc : Int32} (P : AL0 Z n0 h a ed mc) (K : Ext h h') : AL0 Z n0 h' a ed mc := by
  obtain ⟨g, E, F1, F2, F3⟩ := P; exact ⟨g, E.ext K, F1.ext K, F2.ext K, F3.ext K⟩
theorem own_AL1_keep {Z : State} {n0 : Nat} {h h' : Heap} {ws : List Addr} {a ed : Addr} {kE : ClassId} {mc s : Int32} {vs : List Value} (P : AL1 Z n0 h a ed kE mc s vs) (K : Keep h h' ws) (q : a ∉ ws) (r : ed ∉ ws) : AL1 Z n0 h' a ed kE mc s vs := by
  obtain ⟨g, g2, n, O, E, E2, F1, F2, F3, A⟩ := P; exact ⟨g, g2, n, O, E.keep K, E2.keep K, F1.keep K q, F2.keep K q, F3.keep K q, A.keep K r⟩
theorem own_AL1_ext {Z : State} {n0 : Nat} {h h' : Heap} {a ed : Addr} {kE : ClassId} {mc s : Int32} {vs : List Value} (P : AL1 Z n0 h a ed kE mc s vs) (K : Ext h h') : AL1 Z n0 h' a ed kE mc s vs := by
  obtain ⟨g, g2, n, O, E, E2, F1, F2, F3, A⟩ := P; exact ⟨g, g2, n, O, E.ext K, E2.ext K, F1.ext K, F2.ext K, F3.ext K, A.ext K⟩
theorem own_mod11 (x : Int32) : ((x &&& (2147483647 : Int32)) % (11 : Int32)) = (0 : Int32) ∨ ((x &&& (2147483647 : Int32)) % (11 : Int32)) = (1 : Int32) ∨ ((x &&& (2147483647 : Int32)) % (11 : Int32)) = (2 : Int32) ∨ ((x &&& (2147483647 : Int32)) % (11 : Int32)) = (3 : Int32) ∨ ((x &&& (2147483647 : Int32)) % (11 : Int32)) = (4 : Int32) ∨ ((x &&& (2147483647 : Int32)) % (11 : Int32)) = (5 : Int32) ∨ ((x &&& (2147483647 : Int32)) % (11 : Int32)) = (6 : Int32) ∨ ((x &&& (2147483647 : Int32)) % (11 : Int32)) = (7 : Int32) ∨ ((x &&& (2147483647 : Int32)) % (11 : Int32)) = (8 : Int32) ∨ ((x &&& (2147483647 : Int32)) % (11 : Int32)) = (9 : Int32) ∨ ((x &&& (2147483647 : Int32)) % (11 : Int32)) = (10 : Int32) := by
  have h1 := own_mask31 x
  have h2 : ((x &&& (2147483647 : Int32)) % (11 : Int32)).toInt = (x &&& 2147483647).toInt.tmod 11 := by rw [Int32.toInt_mod]; rfl
  rw [Int.tmod_eq_emod_of_nonneg h1.1] at h2
  simp only [← Int32.toInt_inj, h2]
  have h3 : (x &&& 2147483647).toInt % 11 = 0 ∨ (x &&& 2147483647).toInt % 11 = 1 ∨ (x &&& 2147483647).toInt % 11 = 2 ∨ (x &&& 2147483647).toInt % 11 = 3 ∨ (x &&& 2147483647).toInt % 11 = 4 ∨ (x &&& 2147483647).toInt % 11 = 5 ∨ (x &&& 2147483647).toInt % 11 = 6 ∨ (x &&& 2147483647).toInt % 11 = 7 ∨ (x &&& 2147483647).toInt % 11 = 8 ∨ (x &&& 2147483647).toInt % 11 = 9 ∨ (x &&& 2147483647).toInt % 11 = 10 := by omega
  rcases h3 with h | h | h | h | h | h | h | h | h | h | h <;> simp [h]
theorem d1_0 : decode method_2_code 0 = .ok (.iload_n 0, 1) := by decide +kernel
theorem d1_1 : decode method_2_code 1 = .ok (.ldc 7, 2) := by decide +kernel
theorem d1_3 : decode method_2_code 3 = .ok (.iand, 1) := by decide +kernel
theorem d1_4 : decode method_2_code 4 = .ok (.bipush 11, 2) := by decide +kernel
theorem d1_6 : decode method_2_code 6 = .ok (.irem, 1) := by decide +kernel
theorem d1_7 : decode method_2_code 7 = .ok (.istore_n 1, 1) := by decide +kernel
theorem d1_8 : decode method_2_code 8 = .ok (.iload_n 1, 1) := by decide +kernel
theorem d1_9 : decode method_2_code 9 = .ok (.ifCond .ne 7, 3) := by decide +kernel
theorem d1_12 : decode method_2_code 12 = .ok (.getstatic 8, 3) := by decide +kernel
theorem d1_15 : decode method_2_code 15 = .ok (.areturn, 1) := by decide +kernel
theorem d1_16 : decode method_2_code 16 = .ok (.iload_n 1, 1) := by decide +kernel
theorem d1_17 : decode method_2_code 17 = .ok (.iconst 1, 1) := by decide +kernel
theorem d1_18 : decode method_2_code 18 = .ok (.if_icmp .ne 7, 3) := by decide +kernel
theorem d1_21 : decode method_2_code 21 = .ok (.getstatic 14, 3) := by decide +kernel
theorem d1_24 : decode method_2_code 24 = .ok (.areturn, 1) := by decide +kernel
theorem d1_25 : decode method_2_code 25 = .ok (.iload_n 1, 1) := by decide +kernel
theorem d1_26 : decode method_2_code 26 = .ok (.iconst 2, 1) := by decide +kernel
theorem d1_27 : decode method_2_code 27 = .ok (.if_icmp .ne 7, 3) := by decide +kernel
theorem d1_30 : decode method_2_code 30 = .ok (.getstatic 17, 3) := by decide +kernel
theorem d1_33 : decode method_2_code 33 = .ok (.areturn, 1) := by decide +kernel
theorem d1_34 : decode method_2_code 34 = .ok (.iload_n 1, 1) := by decide +kernel
theorem d1_35 : decode method_2_code 35 = .ok (.iconst 3, 1) := by decide +kernel
theorem d1_36 : decode method_2_code 36 = .ok (.if_icmp .ne 7, 3) := by decide +kernel
theorem d1_39 : decode method_2_code 39 = .ok (.getstatic 20, 3) := by decide +kernel
theorem d1_42 : decode method_2_code 42 = .ok (.areturn, 1) := by decide +kernel
theorem d1_43 : decode method_2_code 43 = .ok (.iload_n 1, 1) := by decide +kernel
theorem d1_44 : decode method_2_code 44 = .ok (.iconst 4, 1) := by decide +kernel
theorem d1_45 : decode method_2_code 45 = .ok (.if_icmp .ne 7, 3) := by decide +kernel
theorem d1_48 : decode method_2_code 48 = .ok (.getstatic 23, 3) := by decide +kernel
theorem d1_51 : decode method_2_code 51 = .ok (.areturn, 1) := by decide +kernel
theorem d1_52 : decode method_2_code 52 = .ok (.iload_n 1, 1) := by decide +kernel
theorem d1_53 : decode method_2_code 53 = .ok (.iconst 5, 1) := by decide +kernel
theorem d1_54 : decode method_2_code 54 = .ok (.if_icmp .ne 7, 3) := by decide +kernel
theorem d1_57 : decode method_2_code 57 = .ok (.getstatic 26, 3) := by decide +kernel
theorem d1_60 : decode method_2_code 60 = .ok (.areturn, 1) := by decide +kernel
theorem d1_61 : decode method_2_code 61 = .ok (.iload_n 1, 1) := by decide +kernel
theorem d1_62 : decode method_2_code 62 = .ok (.bipush 6, 2) := by decide +kernel
theorem d1_64 : decode method_2_code 64 = .ok (.if_icmp .ne 7, 3) := by decide +kernel
theorem d1_67 : decode method_2_code 67 = .ok (.getstatic 29, 3) := by decide +kernel
theorem d1_70 : decode method_2_code 70 = .ok (.areturn, 1) := by decide +kernel
theorem d1_71 : decode method_2_code 71 = .ok (.iload_n 1, 1) := by decide +kernel
theorem d1_72 : decode method_2_code 72 = .ok (.bipush 7, 2) := by decide +kernel
theorem d1_74 : decode method_2_code 74 = .ok (.if_icmp .ne 7, 3) := by decide +kernel
theorem d1_77 : decode method_2_code 77 = .ok (.getstatic 32, 3) := by decide +kernel
theorem d1_80 : decode method_2_code 80 = .ok (.areturn, 1) := by decide +kernel
theorem d1_81 : decode method_2_code 81 = .ok (.iload_n 1, 1) := by decide +kernel
theorem d1_82 : decode method_2_code 82 = .ok (.bipush 8, 2) := by decide +kernel
theorem d1_84 : decode method_2_code 84 = .ok (.if_icmp .ne 7, 3) := by decide +kernel
theorem d1_87 : decode method_2_code 87 = .ok (.getstatic 35, 3) := by decide +kernel
theorem d1_90 : decode method_2_code 90 = .ok (.areturn, 1) := by decide +kernel
theorem d1_91 : decode method_2_code 91 = .ok (.iload_n 1, 1) := by decide +kernel
theorem d1_92 : decode method_2_code 92 = .ok (.bipush 9, 2) := by decide +kernel
theorem d1_94 : decode method_2_code 94 = .ok (.if_icmp .ne 7, 3) := by decide +kernel
theorem d1_97 : decode method_2_code 97 = .ok (.getstatic 38, 3) := by decide +kernel
theorem d1_100 : decode method_2_code 100 = .ok (.areturn, 1) := by decide +kernel
theorem d1_101 : decode method_2_code 101 = .ok (.getstatic 41, 3) := by decide +kernel
theorem d1_104 : decode method_2_code 104 = .ok (.areturn, 1) := by decide +kernel
theorem pn_2 : plainName "com/example/strictwire/strictwire/ValueListHoldsOnlyPinLaw" = true := by first | (simp [plainName, overriddenIn]; done) | decide +kernel
set_option maxRecDepth 65536 in
set_option maxHeartbeats 40000000 in
theorem typeAt (l : Launch) (Z : State) (a0 : Array Value) (hw : ∀ d ∈ tables_1, d.before a0 Z = true) (n0 : Nat) (h : Heap) (O : Old Z n0 h) (s_BOOL : Addr) (s_I16 : Addr) (s_I32 : Addr) (s_BYTE : Addr) (s_DOUBLE : Addr) (s_I64 : Addr) (s_MAP : Addr) (s_STRUCT : Addr) (s_LIST : Addr) (s_SET : Addr) (s_STRING : Addr) (s_DEF : Addr) (H : En Z s_BOOL s_I16 s_I32 s_BYTE s_DOUBLE s_I64 s_MAP s_STRUCT s_LIST s_SET s_STRING s_DEF) (p : Int32) : Con l Z (⟨"com/example/strictwire/strictwire/ValueListHoldsOnlyPinLaw", "typeAt", "(I)Lcom/example/strictwire/strictwire/WireType;"⟩ : MethodName) method_2_code 2 (some (.object "com/example/strictwire/strictwire/WireType")) ({ frames := 0, cells := 0, slots := 0, locals := 0 } : Room) #[(.int p)] h n0 (fun v h' => ∃ r, v = some (.ref r) ∧ h' = h) := by
  refine Con.mk (Ls := #[.val (.int p), .unset]) (plainFor_of_name pn_2) (fun m => by first | (simp [entryFrame, mkF, argsToLocals, Value.category]; done) | rfl) (fun w C => ?_)
  replace C : Cx w l Z "com/example/strictwire/strictwire/ValueListHoldsOnlyPinLaw" method_2_code 2 (some (.object "com/example/strictwire/strictwire/WireType")) "typeAt" ({ frames := 0, cells := 0, slots := 0, locals := 0 } : Room) n0 := C
  obtain ⟨S_BOOL, E_BOOL, S_I16, E_I16, S_I32, E_I32, S_BYTE, E_BYTE, S_DOUBLE, E_DOUBLE, S_I64, E_I64, S_MAP, E_MAP, S_STRUCT, E_STRUCT, S_LIST, E_LIST, S_SET, E_SET, S_STRING, E_STRING, F_I32_ordinal, F_I64_ordinal, F_I16_ordinal, F_DOUBLE_ordinal, F_BYTE_ordinal, F_BOOL_ordinal, F_LIST_ordinal, F_SET_ordinal, F_STRUCT_ordinal, F_STRING_ordinal, F_MAP_ordinal, S_DEF, E_DEF, V_DEF⟩ := id H
  obtain ⟨kD, V_DEF⟩ := V_DEF
  refine g_iloadN C (pc' := 1) d1_0 rfl rfl ?_
  refine g_ldcInt C (pc' := 3) (wd hw 4 rfl) d1_1 rfl ?_
  refine g_iand C (pc' := 4) d1_3 rfl rfl ?_
  refine g_bipush C (pc' := 6) (v := (11 : Int32)) d1_4 (by decide) rfl ?_
  refine g_irem C (pc' := 7) d1_6 rfl (by decide) rfl ?_
  rcases own_mod11 p with e11 | e11 | e11 | e11 | e11 | e11 | e11 | e11 | e11 | e11 | e11
  · rw [e11]
    refine g_istoreN C (pc' := 8) (Ls' := #[.val (.int p), .val (.int (0 : Int32))]) d1_7 rfl rfl rfl ?_
    refine g_iloadN C (pc' := 9) d1_8 rfl rfl ?_
    refine g_ifN C (pc' := 12) d1_9 rfl (by decide) rfl ?_
    refine g_getS C (pc' := 15) (wd hw 5 rfl) Via.refl d1_12 (S_BOOL.ext O.2) rfl ?_
    exact g_areturn C d1_15 rfl rfl rfl rfl (Nat.le_of_ble_eq_true rfl) (Nat.le_of_ble_eq_true rfl) (⟨s_BOOL, rfl, rfl⟩)
  · rw [e11]
    refine g_istoreN C (pc' := 8) (Ls' := #[.val (.int p), .val (.int (1 : Int32))]) d1_7 rfl rfl rfl ?_
    refine g_iloadN C (pc' := 9) d1_8 rfl rfl ?_
    refine g_ifY C (pc' := 16) d1_9 rfl (by decide) (by decide) rfl ?_
    refine g_iloadN C (pc' := 17) d1_16 rfl rfl ?_
    refine g_iconst C (pc' := 18) (v := (1 : Int32)) d1_17 (by decide) rfl ?_
    refine g_icN C (pc' := 21) d1_18 rfl (by decide) rfl ?_
    refine g_getS C (pc' := 24) (wd hw 95 rfl) Via.refl d1_21 (S_BYTE.ext O.2) rfl ?_
    exact g_areturn C d1_24 rfl rfl rfl rfl (Nat.le_of_ble_eq_true rfl) (Nat.le_of_ble_eq_true rfl) (⟨s_BYTE, rfl, rfl⟩)
  · rw [e11]
    refine g_istoreN C (pc' := 8) (Ls' := #[.val (.int p), .val (.int (2 : Int32))]) d1_7 rfl rfl rfl ?_
    refine g_iloadN C (pc' := 9) d1_8 rfl rfl ?_
    refine g_ifY C (pc' := 16) d1_9 rfl (by decide) (by decide) rfl ?_
    refine g_iloadN C (pc' := 17) d1_16 rfl rfl ?_
    refine g_iconst C (pc' := 18) (v := (1 : Int32)) d1_17 (by decide) rfl ?_
    refine g_icY C (pc' := 25) d1_18 rfl (by decide) (by decide) rfl ?_
    refine g_iloadN C (pc' := 26) d1_25 rfl rfl ?_
    refine g_iconst C (pc' := 27) (v := (2 : Int32)) d1_26 (by decide) rfl ?_
    refine g_icN C (pc' := 30) d1_27 rfl (by decide) rfl ?_
    refine g_getS C (pc' := 33) (wd hw 97 rfl) Via.refl d1_30 (S_DOUBLE.ext O.2) rfl ?_
    exact g_areturn C d1_33 rfl rfl rfl rfl (Nat.le_of_ble_eq_true rfl) (Nat.le_of_ble_eq_true rfl) (⟨s_DOUBLE, rfl, rfl⟩)
  · rw [e11]
    refine g_istoreN C (pc' := 8) (Ls' := #[.val (.int p), .val (.int (3 : Int32))]) d1_7 rfl rfl rfl ?_
    refine g_iloadN C (pc' := 9) d1_8 rfl rfl ?_
    refine g_ifY C (pc' := 16) d1_9 rfl (by decide) (by decide) rfl ?_
    refine g_iloadN C (pc' := 17) d1_16 rfl rfl ?_
    refine g_iconst C (pc' := 18) (v := (1 : Int32)) d1_17 (by decide) rfl ?_
    refine g_icY C (pc' := 25) d1_18 rfl (by decide) (by decide) rfl ?_
    refine g_iloadN C (pc' := 26) d1_25 rfl rfl ?_
    refine g_iconst C (pc' := 27) (v := (2 : Int32)) d1_26 (by decide) rfl ?_
    refine g_icY C (pc' := 34) d1_27 rfl (by decide) (by decide) rfl ?_
    refine g_iloadN C (pc' := 35) d1_34 rfl rfl ?_
    refine g_iconst C (pc' := 36) (v := (3 : Int32)) d1_35 (by decide) rfl ?_
    refine g_icN C (pc' := 39) d1_36 rfl (by decide) rfl ?_
    refine g_getS C (pc' := 42) (wd hw 8 rfl) Via.refl d1_39 (S_I16.ext O.2) rfl ?_
    exact g_areturn C d1_42 rfl rfl rfl rfl (Nat.le_of_ble_eq_true rfl) (Nat.le_of_ble_eq_true rfl) (⟨s_I16, rfl, rfl⟩)
  · rw [e11]
    refine g_istoreN C (pc' := 8) (Ls' := #[.val (.int p), .val (.int (4 : Int32))]) d1_7 rfl rfl rfl ?_
    refine g_iloadN C (pc' := 9) d1_8 rfl rfl ?_
    refine g_ifY C (pc' := 16) d1_9 rfl (by decide) (by decide) rfl ?_
    refine g_iloadN C (pc' := 17) d1_16 rfl rfl ?_
    refine g_iconst C (pc' := 18) (v := (1 : Int32)) d1_17 (by decide) rfl ?_
    refine g_icY C (pc' := 25) d1_18 rfl (by decide) (by decide) rfl ?_
    refine g_iloadN C (pc' := 26) d1_25 rfl rfl ?_
    refine g_iconst C (pc' := 27) (v := (2 : Int32)) d1_26 (by decide) rfl ?_
    refine g_icY C (pc' := 34) d1_27 rfl (by decide) (by decide) rfl ?_
    refine g_iloadN C (pc' := 35) d1_34 rfl rfl ?_
    refine g_iconst C (pc' := 36) (v := (3 : Int32)) d1_35 (by decide) rfl ?_
    refine g_icY C (pc' := 43) d1_36 rfl (by decide) (by decide) rfl ?_
    refine g_iloadN C (pc' := 44) d1_43 rfl rfl ?_
    refine g_iconst C (pc' := 45) (v := (4 : Int32)) d1_44 (by decide) rfl ?_
    refine g_icN C (pc' := 48) d1_45 rfl (by decide) rfl ?_
    refine g_getS C (pc' := 51) (wd hw 10 rfl) Via.refl d1_48 (S_I32.ext O.2) rfl ?_
    exact g_areturn C d1_51 rfl rfl rfl rfl (Nat.le_of_ble_eq_true rfl) (Nat.le_of_ble_eq_true rfl) (⟨s_I32, rfl, rfl⟩)
  · rw [e11]
    refine g_istoreN C (pc' := 8) (Ls' := #[.val (.int p), .val (.int (5 : Int32))]) d1_7 rfl rfl rfl ?_
    refine g_iloadN C (pc' := 9) d1_8 rfl rfl ?_
    refine g_ifY C (pc' := 16) d1_9 rfl (by decide) (by decide) rfl ?_
    refine g_iloadN C (pc' := 17) d1_16 rfl rfl ?_
    refine g_iconst C (pc' := 18) (v := (1 : Int32)) d1_17 (by decide) rfl ?_
    refine g_icY C (pc' := 25) d1_18 rfl (by decide) (by decide) rfl ?_
    refine g_iloadN C (pc' := 26) d1_25 rfl rfl ?_
    refine g_iconst C (pc' := 27) (v := (2 : Int32)) d1_26 (by decide) rfl ?_
    refine g_icY C (pc' := 34) d1_27 rfl (by decide) (by decide) rfl ?_
    refine g_iloadN C (pc' := 35) d1_34 rfl rfl ?_
    refine g_iconst C (pc' := 36) (v := (3 : Int32)) d1_35 (by decide) rfl ?_
    refine g_icY C (pc' := 43) d1_36 rfl (by decide) (by decide) rfl ?_
    refine g_iloadN C (pc' := 44) d1_43 rfl rfl ?_
    refine g_iconst C (pc' := 45) (v := (4 : Int32)) d1_44 (by decide) rfl ?_
    refine g_icY C (pc' := 52) d1_45 rfl (by decide) (by decide) rfl ?_
    refine g_iloadN C (pc' := 53) d1_52 rfl rfl ?_
    refine g_iconst C (pc' := 54) (v := (5 : Int32)) d1_53 (by decide) rfl ?_
    refine g_icN C (pc' := 57) d1_54 rfl (by decide) rfl ?_
    refine g_getS C (pc' := 60) (wd hw 99 rfl) Via.refl d1_57 (S_I64.ext O.2) rfl ?_
    exact g_areturn C d1_60 rfl rfl rfl rfl (Nat.le_of_ble_eq_true rfl) (Nat.le_of_ble_eq_true rfl) (⟨s_I64, rfl, rfl⟩)
  · rw [e11]
    refine g_istoreN C (pc' := 8) (Ls' := #[.val (.int p), .val (.int (6 : Int32))]) d1_7 rfl rfl rfl ?_
    refine g_iloadN C (pc' := 9) d1_8 rfl rfl ?_
    refine g_ifY C (pc' := 16) d1_9 rfl (by decide) (by decide) rfl ?_
    refine g_iloadN C (pc' := 17) d1_16 rfl rfl ?_
    refine g_iconst C (pc' := 18) (v := (1 : Int32)) d1_17 (by decide) rfl ?_
    refine g_icY C (pc' := 25) d1_18 rfl (by decide) (by decide) rfl ?_
    refine g_iloadN C (pc' := 26) d1_25 rfl rfl ?_
    refine g_iconst C (pc' := 27) (v := (2 : Int32)) d1_26 (by decide) rfl ?_
    refine g_icY C (pc' := 34) d1_27 rfl (by decide) (by decide) rfl ?_
    refine g_iloadN C (pc' := 35) d1_34 rfl rfl ?_
    refine g_iconst C (pc' := 36) (v := (3 : Int32)) d1_35 (by decide) rfl ?_
    refine g_icY C (pc' := 43) d1_36 rfl (by decide) (by decide) rfl ?_
    refine g_iloadN C (pc' := 44) d1_43 rfl rfl ?_
    refine g_iconst C (pc' := 45) (v := (4 : Int32)) d1_44 (by decide) rfl ?_
    refine g_icY C (pc' := 52) d1_45 rfl (by decide) (by decide) rfl ?_
    refine g_iloadN C (pc' := 53) d1_52 rfl rfl ?_
    refine g_iconst C (pc' := 54) (v := (5 : Int32)) d1_53 (by decide) rfl ?_
    refine g_icY C (pc' := 61) d1_54 rfl (by decide) (by decide) rfl ?_
    refine g_iloadN C (pc' := 62) d1_61 rfl rfl ?_
    refine g_bipush C (pc' := 64) (v := (6 : Int32)) d1_62 (by decide) rfl ?_
    refine g_icN C (pc' := 67) d1_64 rfl (by decide) rfl ?_
    refine g_getS C (pc' := 70) (wd hw 126 rfl) Via.refl d1_67 (S_STRING.ext O.2) rfl ?_
    exact g_areturn C d1_70 rfl rfl rfl rfl (Nat.le_of_ble_eq_true rfl) (Nat.le_of_ble_eq_true rfl) (⟨s_STRING, rfl, rfl⟩)
  · rw [e11]
    refine g_istoreN C (pc' := 8) (Ls' := #[.val (.int p), .val (.int (7 : Int32))]) d1_7 rfl rfl rfl ?_
    refine g_iloadN C (pc' := 9) d1_8 rfl rfl ?_
    refine g_ifY C (pc' := 16) d1_9 rfl (by decide) (by decide) rfl ?_
    refine g_iloadN C (pc' := 17) d1_16 rfl rfl ?_
    refine g_iconst C (pc' := 18) (v := (1 : Int32)) d1_17 (by decide) rfl ?_
    refine g_icY C (pc' := 25) d1_18 rfl (by decide) (by decide) rfl ?_
    refine g_iloadN C (pc' := 26) d1_25 rfl rfl ?_
    refine g_iconst C (pc' := 27) (v := (2 : Int32)) d1_26 (by decide) rfl ?_
    refine g_icY C (pc' := 34) d1_27 rfl (by decide) (by decide) rfl ?_
    refine g_iloadN C (pc' := 35) d1_34 rfl rfl ?_
    refine g_iconst C (pc' := 36) (v := (3 : Int32)) d1_35 (by decide) rfl ?_
    refine g_icY C (pc' := 43) d1_36 rfl (by decide) (by decide) rfl ?_
    refine g_iloadN C (pc' := 44) d1_43 rfl rfl ?_
    refine g_iconst C (pc' := 45) (v := (4 : Int32)) d1_44 (by decide) rfl ?_
    refine g_icY C (pc' := 52) d1_45 rfl (by decide) (by decide) rfl ?_
    refine g_iloadN C (pc' := 53) d1_52 rfl rfl ?_
    refine g_iconst C (pc' := 54) (v := (5 : Int32)) d1_53 (by decide) rfl ?_
    refine g_icY C (pc' := 61) d1_54 rfl (by decide) (by decide) rfl ?_
    refine g_iloadN C (pc' := 62) d1_61 rfl rfl ?_
    refine g_bipush C (pc' := 64) (v := (6 : Int32)) d1_62 (by decide) rfl ?_
    refine g_icY C (pc' := 71) d1_64 rfl (by decide) (by decide) rfl ?_
    refine g_iloadN C (pc' := 72) d1_71 rfl rfl ?_
    refine g_bipush C (pc' := 74) (v := (7 : Int32)) d1_72 (by decide) rfl ?_
    refine g_icN C (pc' := 77) d1_74 rfl (by decide) rfl ?_
    refine g_getS C (pc' := 80) (wd hw 120 rfl) Via.refl d1_77 (S_STRUCT.ext O.2) rfl ?_
    exact g_areturn C d1_80 rfl rfl rfl rfl (Nat.le_of_ble_eq_true rfl) (Nat.le_of_ble_eq_true rfl) (⟨s_STRUCT, rfl, rfl⟩)
  · rw [e11]
    refine g_istoreN C (pc' := 8) (Ls' := #[.val (.int p), .val (.int (8 : Int32))]) d1_7 rfl rfl rfl ?_
    refine g_iloadN C (pc' := 9) d1_8 rfl rfl ?_
    refine g_ifY C (pc' := 16) d1_9 rfl (by decide) (by decide) rfl ?_
    refine g_iloadN C (pc' := 17) d1_16 rfl rfl ?_
    refine g_iconst C (pc' := 18) (v := (1 : Int32)) d1_17 (by decide) rfl ?_
    refine g_icY C (pc' := 25) d1_18 rfl (by decide) (by decide) rfl ?_
    refine g_iloadN C (pc' := 26) d1_25 rfl rfl ?_
    refine g_iconst C (pc' := 27) (v := (2 : Int32)) d1_26 (by decide) rfl ?_
    refine g_icY C (pc' := 34) d1_27 rfl (by decide) (by decide) rfl ?_
    refine g_iloadN C (pc' := 35) d1_34 rfl rfl ?_
    refine g_iconst C (pc' := 36) (v := (3 : Int32)) d1_35 (by decide) rfl ?_
    refine g_icY C (pc' := 43) d1_36 rfl (by decide) (by decide) rfl ?_
    refine g_iloadN C (pc' := 44) d1_43 rfl rfl ?_
    refine g_iconst C (pc' := 45) (v := (4 : Int32)) d1_44 (by decide) rfl ?_
    refine g_icY C (pc' := 52) d1_45 rfl (by decide) (by decide) rfl ?_
    refine g_iloadN C (pc' := 53) d1_52 rfl rfl ?_
    refine g_iconst C (pc' := 54) (v := (5 : Int32)) d1_53 (by decide) rfl ?_
    refine g_icY C (pc' := 61) d1_54 rfl (by decide) (by decide) rfl ?_
    refine g_iloadN C (pc' := 62) d1_61 rfl rfl ?_
    refine g_bipush C (pc' := 64) (v := (6 : Int32)) d1_62 (by decide) rfl ?_
    refine g_icY C (pc' := 71) d1_64 rfl (by decide) (by decide) rfl ?_
    refine g_iloadN C (pc' := 72) d1_71 rfl rfl ?_
    refine g_bipush C (pc' := 74) (v := (7 : Int32)) d1_72 (by decide) rfl ?_
    refine g_icY C (pc' := 81) d1_74 rfl (by decide) (by decide) rfl ?_
    refine g_iloadN C (pc' := 82) d1_81 rfl rfl ?_
    refine g_bipush C (pc' := 84) (v := (8 : Int32)) d1_82 (by decide) rfl ?_
    refine g_icN C (pc' := 87) d1_84 rfl (by decide) rfl ?_
    refine g_getS C (pc' := 90) (wd hw 118 rfl) Via.refl d1_87 (S_MAP.ext O.2) rfl ?_
    exact g_areturn C d1_90 rfl rfl rfl rfl (Nat.le_of_ble_eq_true rfl) (Nat.le_of_ble_eq_true rfl) (⟨s_MAP, rfl, rfl⟩)
  · rw [e11]
    refine g_istoreN C (pc' := 8) (Ls' := #[.val (.int p), .val (.int (9 : Int32))]) d1_7 rfl rfl rfl ?_
    refine g_iloadN C (pc' := 9) d1_8 rfl rfl ?_
    refine g_ifY C (pc' := 16) d1_9 rfl (by decide) (by decide) rfl ?_
    refine g_iloadN C (pc' := 17) d1_16 rfl rfl ?_
    refine g_iconst C (pc' := 18) (v := (1 : Int32)) d1_17 (by decide) rfl ?_
    refine g_icY C (pc' := 25) d1_18 rfl (by decide) (by decide) rfl ?_
    refine g_iloadN C (pc' := 26) d1_25 rfl rfl ?_
    refine g_iconst C (pc' := 27) (v := (2 : Int32)) d1_26 (by decide) rfl ?_
    refine g_icY C (pc' := 34) d1_27 rfl (by decide) (by decide) rfl ?_
    refine g_iloadN C (pc' := 35) d1_34 rfl rfl ?_
    refine g_iconst C (pc' := 36) (v := (3 : Int32)) d1_35 (by decide) rfl ?_
    refine g_icY C (pc' := 43) d1_36 rfl (by decide) (by decide) rfl ?_
    refine g_iloadN C (pc' := 44) d1_43 rfl rfl ?_
    refine g_iconst C (pc' := 45) (v := (4 : Int32)) d1_44 (by decide) rfl ?_
    refine g_icY C (pc' := 52) d1_45 rfl (by decide) (by decide) rfl ?_
    refine g_iloadN C (pc' := 53) d1_52 rfl rfl ?_
    refine g_iconst C (pc' := 54) (v := (5 : Int32)) d1_53 (by decide) rfl ?_
    refine g_icY C (pc' := 61) d1_54 rfl (by decide) (by decide) rfl ?_
    refine g_iloadN C (pc' := 62) d1_61 rfl rfl ?_
    refine g_bipush C (pc' := 64) (v := (6 : Int32)) d1_62 (by decide) rfl ?_
    refine g_icY C (pc' := 71) d1_64 rfl (by decide) (by decide) rfl ?_
    refine g_iloadN C (pc' := 72) d1_71 rfl rfl ?_
    refine g_bipush C (pc' := 74) (v := (7 : Int32)) d1_72 (by decide) rfl ?_
    refine g_icY C (pc' := 81) d1_74 rfl (by decide) (by decide) rfl ?_
    refine g_iloadN C (pc' := 82) d1_81 rfl rfl ?_
    refine g_bipush C (pc' := 84) (v := (8 : Int32)) d1_82 (by decide) rfl ?_
    refine g_icY C (pc' := 91) d1_84 rfl (by decide) (by decide) rfl ?_
    refine g_iloadN C (pc' := 92) d1_91 rfl rfl ?_
    refine g_bipush C (pc' := 94) (v := (9 : Int32)) d1_92 (by decide) rfl ?_
    refine g_icN C (pc' := 97) d1_94 rfl (by decide) rfl ?_
    refine g_getS C (pc' := 100) (wd hw 124 rfl) Via.refl d1_97 (S_SET.ext O.2) rfl ?_
    exact g_areturn C d1_100 rfl rfl rfl rfl (Nat.le_of_ble_eq_true rfl) (Nat.le_of_ble_eq_true rfl) (⟨s_SET, rfl, rfl⟩)
  · rw [e11]
    refine g_istoreN C (pc' := 8) (Ls' := #[.val (.int p), .val (.int (10 : Int32))]) d1_7 rfl rfl rfl ?_
    refine g_iloadN C (pc' := 9) d1_8 rfl rfl ?_
    refine g_ifY C (pc' := 16) d1_9 rfl (by decide) (by decide) rfl ?_
    refine g_iloadN C (pc' := 17) d1_16 rfl rfl ?_
    refine g_iconst C (pc' := 18) (v := (1 : Int32)) d1_17 (by decide) rfl ?_
    refine g_icY C (pc' := 25) d1_18 rfl (by decide) (by decide) rfl ?_
    refine g_iloadN C (pc' := 26) d1_25 rfl rfl ?_
    refine g_iconst C (pc' := 27) (v := (2 : Int32)) d1_26 (by decide) rfl ?_
    refine g_icY C (pc' := 34) d1_27 rfl (by decide) (by decide) rfl ?_
    refine g_iloadN C (pc' := 35) d1_34 rfl rfl ?_
    refine g_iconst C (pc' := 36) (v := (3 : Int32)) d1_35 (by decide) rfl ?_
    refine g_icY C (pc' := 43) d1_36 rfl (by decide) (by decide) rfl ?_
    refine g_iloadN C (pc' := 44) d1_43 rfl rfl ?_
    refine g_iconst C (pc' := 45) (v := (4 : Int32)) d1_44 (by decide) rfl ?_
    refine g_icY C (pc' := 52) d1_45 rfl (by decide) (by decide) rfl ?_
    refine g_iloadN C (pc' := 53) d1_52 rfl rfl ?_
    refine g_iconst C (pc' := 54) (v := (5 : Int32)) d1_53 (by decide) rfl ?_
    refine g_icY C (pc' := 61) d1_54 rfl (by decide) (by decide) rfl ?_
    refine g_iloadN C (pc' := 62) d1_61 rfl rfl ?_
    refine g_bipush C (pc' := 64) (v := (6 : Int32)) d1_62 (by decide) rfl ?_
    refine g_icY C (pc' := 71) d1_64 rfl (by decide) (by decide) rfl ?_
    refine g_iloadN C (pc' := 72) d1_71 rfl rfl ?_
    refine g_bipush C (pc' := 74) (v := (7 : Int32)) d1_72 (by decide) rfl ?_
    refine g_icY C (pc' := 81) d1_74 rfl (by decide) (by decide) rfl ?_
    refine g_iloadN C (pc' := 82) d1_81 rfl rfl ?_
    refine g_bipush C (pc' := 84) (v := (8 : Int32)) d1_82 (by decide) rfl ?_
    refine g_icY C (pc' := 91) d1_84 rfl (by decide) (by decide) rfl ?_
    refine g_iloadN C (pc' := 92) d1_91 rfl rfl ?_
    refine g_bipush C (pc' := 94) (v := (9 : Int32)) d1_92 (by decide) rfl ?_
    refine g_icY C (pc' := 101) d1_94 rfl (by decide) (by decide) rfl ?_
    refine g_getS C (pc' := 104) (wd hw 122 rfl) Via.refl d1_101 (S_LIST.ext O.2) rfl ?_
    exact g_areturn C d1_104 rfl rfl rfl rfl (Nat.le_of_ble_eq_true rfl) (Nat.le_of_ble_eq_true rfl) (⟨s_LIST, rfl, rfl⟩)
theorem d3_0 : decode jdk_30_method_1_code 0 = .ok (.aload_n 0, 1) := by decide +kernel
theorem d3_1 : decode jdk_30_method_1_code 1 = .ok (.invokespecial 1, 3) := by decide +kernel
theorem d3_4 : decode jdk_30_method_1_code 4 = .ok (.return_, 1) := by decide +kernel
theorem pn_5 : plainName "java/lang/Record" = true := by first | (simp [plainName, overriddenIn]; done) | decide +kernel
set_option maxRecDepth 65536 in
set_option maxHeartbeats 40000000 in
theorem rec_0 (l : Launch) (Z : State) (a0 : Array Value) (hw : ∀ d ∈ tables_1, d.before a0 Z = true) (n0 : Nat) (h : Heap) (O : Old Z n0 h) (s_BOOL : Addr) (s_I16 : Addr) (s_I32 : Addr) (s_BYTE : Addr) (s_DOUBLE : Addr) (s_I64 : Addr) (s_MAP : Addr) (s_STRUCT : Addr) (s_LIST : Addr) (s_SET : Addr) (s_STRING : Addr) (s_DEF : Addr) (H : En Z s_BOOL s_I16 s_I32 s_BYTE s_DOUBLE s_I64 s_MAP s_STRUCT s_LIST s_SET s_STRING s_DEF) (a : Addr) (E0 : Exa Z h a "com/example/strictwire/strictwire/I32Value") : Con l Z (⟨"java/lang/Record", "<init>", "()V"⟩ : MethodName) jdk_30_method_1_code 1 none ({ frames := 1, cells := 0, slots := 0, locals := 12 } : Room) #[(.ref a)] h n0 (fun v h' => v = none ∧ h' = h) := by
  refine Con.mk (Ls := #[.val (.ref a)]) (plainFor_of_name pn_5) (fun m => by first | (simp [entryFrame, mkF, argsToLocals, Value.category]; done) | rfl) (fun w C => ?_)
  replace C : Cx w l Z "java/lang/Record" jdk_30_method_1_code 1 none "<init>" ({ frames := 1, cells := 0, slots := 0, locals := 12 } : Room) n0 := C
  obtain ⟨S_BOOL, E_BOOL, S_I16, E_I16, S_I32, E_I32, S_BYTE, E_BYTE, S_DOUBLE, E_DOUBLE, S_I64, E_I64, S_MAP, E_MAP, S_STRUCT, E_STRUCT, S_LIST, E_LIST, S_SET, E_SET, S_STRING, E_STRING, F_I32_ordinal, F_I64_ordinal, F_I16_ordinal, F_DOUBLE_ordinal, F_BYTE_ordinal, F_BOOL_ordinal, F_LIST_ordinal, F_SET_ordinal, F_STRUCT_ordinal, F_STRING_ordinal, F_MAP_ordinal, S_DEF, E_DEF, V_DEF⟩ := id H
  obtain ⟨kD, V_DEF⟩ := V_DEF
  refine g_aloadN C (pc' := 1) d3_0 rfl rfl rfl ?_
  refine g_initO C (pc' := 4) (wd hw 25 rfl) (wd hw 26 rfl) (wd hw 27 rfl) d3_1 rfl rfl (Nat.le_of_ble_eq_true rfl) (Nat.le_of_ble_eq_true rfl) rfl ?_
  exact g_return C d3_4 rfl (Nat.le_of_ble_eq_true rfl) (Nat.le_of_ble_eq_true rfl) (⟨rfl, rfl⟩)
theorem d2_0 : decode prog_15_method_1_code 0 = .ok (.aload_n 0, 1) := by decide +kernel
theorem d2_1 : decode prog_15_method_1_code 1 = .ok (.invokespecial 1, 3) := by decide +kernel
theorem pd_2 : parseMethodDescriptor "()V" = some ⟨[], none⟩ := by decide +kernel
theorem d2_4 : decode prog_15_method_1_code 4 = .ok (.aload_n 0, 1) := by decide +kernel
theorem d2_5 : decode prog_15_method_1_code 5 = .ok (.iload_n 1, 1) := by decide +kernel
theorem d2_6 : decode prog_15_method_1_code 6 = .ok (.putfield 7, 3) := by decide +kernel
theorem d2_9 : decode prog_15_method_1_code 9 = .ok (.return_, 1) := by decide +kernel
theorem pn_0 : plainName "com/example/strictwire/strictwire/I32Value" = true := by first | (simp [plainName, overriddenIn]; done) | decide +kernel
set_option maxRecDepth 65536 in
set_option maxHeartbeats 40000000 in
theorem ivI (l : Launch) (Z : State) (a0 : Array Value) (hw : ∀ d ∈ tables_1, d.before a0 Z = true) (n0 : Nat) (h : Heap) (O : Old Z n0 h) (s_BOOL : Addr) (s_I16 : Addr) (s_I32 : Addr) (s_BYTE : Addr) (s_DOUBLE : Addr) (s_I64 : Addr) (s_MAP : Addr) (s_STRUCT : Addr) (s_LIST : Addr) (s_SET : Addr) (s_STRING : Addr) (s_DEF : Addr) (H : En Z s_BOOL s_I16 s_I32 s_BYTE s_DOUBLE s_I64 s_MAP s_STRUCT s_LIST s_SET s_STRING s_DEF) (a : Addr) (v : Int32) (ga : n0 ≤ a) (E0 : Exa Z h a "com/example/strictwire/strictwire/I32Value") (F0 : Fld Z h a "com/example/strictwire/strictwire/I32Value" "value" "I" (.int (0 : Int32))) : Con l Z (⟨"com/example/strictwire/strictwire/I32Value", "<init>", "(I)V"⟩ : MethodName) prog_15_method_1_code 2 none ({ frames := 2, cells := 0, slots := 0, locals := 24 } : Room) #[(.ref a), (.int v)] h n0 (fun r h' => r = none ∧ Keep h h' [a]) := by
  refine Con.mk (Ls := #[.val (.ref a), .val (.int v)]) (plainFor_of_name pn_0) (fun m => by first | (simp [entryFrame, mkF, argsToLocals, Value.category]; done) | rfl) (fun w C => ?_)
  replace C : Cx w l Z "com/example/strictwire/strictwire/I32Value" prog_15_method_1_code 2 none "<init>" ({ frames := 2, cells := 0, slots := 0, locals := 24 } : Room) n0 := C
  obtain ⟨S_BOOL, E_BOOL, S_I16, E_I16, S_I32, E_I32, S_BYTE, E_BYTE, S_DOUBLE, E_DOUBLE, S_I64, E_I64, S_MAP, E_MAP, S_STRUCT, E_STRUCT, S_LIST, E_LIST, S_SET, E_SET, S_STRING, E_STRING, F_I32_ordinal, F_I64_ordinal, F_I16_ordinal, F_DOUBLE_ordinal, F_BYTE_ordinal, F_BOOL_ordinal, F_LIST_ordinal, F_SET_ordinal, F_STRUCT_ordinal, F_STRING_ordinal, F_MAP_ordinal, S_DEF, E_DEF, V_DEF⟩ := id H
  obtain ⟨kD, V_DEF⟩ := V_DEF
  refine g_aloadN C (pc' := 1) d2_0 rfl rfl rfl ?_
  refine g_special C (pc' := 4) (k' := 0) (n' := 0) (argsL := []) (rest := []) (wd hw 20 rfl) (wd hw 21 rfl) (wd hw 23 rfl) (wd hw 24 rfl) (by decide) rfl d2_1 pd_2 rfl rfl rfl (rec_0 l Z a0 hw n0 h O s_BOOL s_I16 s_I32 s_BYTE s_DOUBLE s_I64 s_MAP s_STRUCT s_LIST s_SET s_STRING s_DEF H a E0) (Nat.le_of_ble_eq_true rfl) (Nat.le_of_ble_eq_true rfl) (Nat.le_of_ble_eq_true rfl) (Nat.le_of_ble_eq_true rfl) rfl rfl rfl (fun v2 h1 q3 => ?_)
  obtain ⟨rfl, eh1⟩ := q3
  subst h1
  show G w _ h 0 0 4 #[.val (.ref a), .val (.int v)] []
  refine g_aloadN C (pc' := 5) d2_4 rfl rfl rfl ?_
  refine g_iloadN C (pc' := 6) d2_5 rfl rfl ?_
  refine g_putF C (pc' := 9) (ty := .int) (wd hw 28 rfl) Via.refl d2_6 rfl F0 E0 (Or.inr ⟨(wd hw 29 rfl), rfl, rfl⟩) (wd hw 15 rfl) (by decide) rfl rfl ga rfl (fun h4 W5 => ?_)
  have f6 := O.wr W5 ga
  have f7 := (Keep.refl h [a]).wr W5 (Or.inl (List.mem_of_getElem? (i := 0) rfl))
  have f8 := E0.wr W5
  have f9 := F0.same W5
  exact g_return C d2_9 rfl (Nat.le_of_ble_eq_true rfl) (Nat.le_of_ble_eq_true rfl) (⟨rfl, f7⟩)
theorem d7_0 : decode jdk_22_method_1_code 0 = .ok (.aload_n 0, 1) := by decide +kernel
theorem d7_1 : decode jdk_22_method_1_code 1 = .ok (.invokespecial 1, 3) := by decide +kernel
theorem d7_4 : decode jdk_22_method_1_code 4 = .ok (.return_, 1) := by decide +kernel
theorem pn_6 : plainName "java/util/AbstractCollection" = true := by first | (simp [plainName, overriddenIn]; done) | decide +kernel
set_option maxRecDepth 65536 in
set_option maxHeartbeats 40000000 in
theorem acol_0 (l : Launch) (Z : State) (a0 : Array Value) (hw : ∀ d ∈ tables_1, d.before a0 Z = true) (n0 : Nat) (h : Heap) (O : Old Z n0 h) (s_BOOL : Addr) (s_I16 : Addr) (s_I32 : Addr) (s_BYTE : Addr) (s_DOUBLE : Addr) (s_I64 : Addr) (s_MAP : Addr) (s_STRUCT : Addr) (s_LIST : Addr) (s_SET : Addr) (s_STRING : Addr) (s_DEF : Addr) (H : En Z s_BOOL s_I16 s_I32 s_BYTE s_DOUBLE s_I64 s_MAP s_STRUCT s_LIST s_SET s_STRING s_DEF) (a : Addr) (E0 : Exa Z h a "java/util/ArrayList") : Con l Z (⟨"java/util/AbstractCollection", "<init>", "()V"⟩ : MethodName) jdk_22_method_1_code 1 none ({ frames := 1, cells := 0, slots := 0, locals := 12 } : Room) #[(.ref a)] h n0 (fun v h' => v = none ∧ h' = h) := by
  refine Con.mk (Ls := #[.val (.ref a)]) (plainFor_of_name pn_6) (fun m => by first | (simp [entryFrame, mkF, argsToLocals, Value.category]; done) | rfl) (fun w C => ?_)
  replace C : Cx w l Z "java/util/AbstractCollection" jdk_22_method_1_code 1 none "<init>" ({ frames := 1, cells := 0, slots := 0, locals := 12 } : Room) n0 := C
  obtain ⟨S_BOOL, E_BOOL, S_I16, E_I16, S_I32, E_I32, S_BYTE, E_BYTE, S_DOUBLE, E_DOUBLE, S_I64, E_I64, S_MAP, E_MAP, S_STRUCT, E_STRUCT, S_LIST, E_LIST, S_SET, E_SET, S_STRING, E_STRING, F_I32_ordinal, F_I64_ordinal, F_I16_ordinal, F_DOUBLE_ordinal, F_BYTE_ordinal, F_BOOL_ordinal, F_LIST_ordinal, F_SET_ordinal, F_STRUCT_ordinal, F_STRING_ordinal, F_MAP_ordinal, S_DEF, E_DEF, V_DEF⟩ := id H
  obtain ⟨kD, V_DEF⟩ := V_DEF
  refine g_aloadN C (pc' := 1) d7_0 rfl rfl rfl ?_
  refine g_initO C (pc' := 4) (wd hw 49 rfl) (wd hw 26 rfl) (wd hw 27 rfl) d7_1 rfl rfl (Nat.le_of_ble_eq_true rfl) (Nat.le_of_ble_eq_true rfl) rfl ?_
  exact g_return C d7_4 rfl (Nat.le_of_ble_eq_true rfl) (Nat.le_of_ble_eq_true rfl) (⟨rfl, rfl⟩)
theorem d6_0 : decode jdk_39_method_1_code 0 = .ok (.aload_n 0, 1) := by decide +kernel
theorem d6_1 : decode jdk_39_method_1_code 1 = .ok (.invokespecial 1, 3) := by decide +kernel
theorem d6_4 : decode jdk_39_method_1_code 4 = .ok (.aload_n 0, 1) := by decide +kernel
theorem d6_5 : decode jdk_39_method_1_code 5 = .ok (.iconst 0, 1) := by decide +kernel
theorem d6_6 : decode jdk_39_method_1_code 6 = .ok (.putfield 7, 3) := by decide +kernel
theorem d6_9 : decode jdk_39_method_1_code 9 = .ok (.return_, 1) := by decide +kernel
theorem pn_7 : plainName "java/util/AbstractList" = true := by first | (simp [plainName, overriddenIn]; done) | decide +kernel
set_option maxRecDepth 65536 in
set_option maxHeartbeats 40000000 in
theorem abl (l : Launch) (Z : State) (a0 : Array Value) (hw : ∀ d ∈ tables_1, d.before a0 Z = true) (n0 : Nat) (h : Heap) (O : Old Z n0 h) (s_BOOL : Addr) (s_I16 : Addr) (s_I32 : Addr) (s_BYTE : Addr) (s_DOUBLE : Addr) (s_I64 : Addr) (s_MAP : Addr) (s_STRUCT : Addr) (s_LIST : Addr) (s_SET : Addr) (s_STRING : Addr) (s_DEF : Addr) (H : En Z s_BOOL s_I16 s_I32 s_BYTE s_DOUBLE s_I64 s_MAP s_STRUCT s_LIST s_SET s_STRING s_DEF) (a : Addr) (ga : n0 ≤ a) (E0 : Exa Z h a "java/util/ArrayList") (F1 : Fld Z h a "java/util/AbstractList" "modCount" "I" (.int (0 : Int32))) : Con l Z (⟨"java/util/AbstractList", "<init>", "()V"⟩ : MethodName) jdk_39_method_1_code 1 none ({ frames := 2, cells := 0, slots := 0, locals := 24 } : Room) #[(.ref a)] h n0 (fun v h' => v = none ∧ Keep h h' [a] ∧ Exa Z h' a "java/util/ArrayList" ∧ Fld Z h' a "java/util/AbstractList" "modCount" "I" (.int (0 : Int32)) ∧ (∀ {C f d : String} {v : Value}, Laid Z a0 "java/util/ArrayList" C f d → (f ≠ "modCount") → (∃ t, parseFieldDescriptor d = some t) → Fld Z h a C f d v → Fld Z h' a C f d v)) := by
  refine Con.mk (Ls := #[.val (.ref a)]) (plainFor_of_name pn_7) (fun m => by first | (simp [entryFrame, mkF, argsToLocals, Value.category]; done) | rfl) (fun w C => ?_)
  replace C : Cx w l Z "java/util/AbstractList" jdk_39_method_1_code 1 none "<init>" ({ frames := 2, cells := 0, slots := 0, locals := 24 } : Room) n0 := C
  obtain ⟨S_BOOL, E_BOOL, S_I16, E_I16, S_I32, E_I32, S_BYTE, E_BYTE, S_DOUBLE, E_DOUBLE, S_I64, E_I64, S_MAP, E_MAP, S_STRUCT, E_STRUCT, S_LIST, E_LIST, S_SET, E_SET, S_STRING, E_STRING, F_I32_ordinal, F_I64_ordinal, F_I16_ordinal, F_DOUBLE_ordinal, F_BYTE_ordinal, F_BOOL_ordinal, F_LIST_ordinal, F_SET_ordinal, F_STRUCT_ordinal, F_STRING_ordinal, F_MAP_ordinal, S_DEF, E_DEF, V_DEF⟩ := id H
  obtain ⟨kD, V_DEF⟩ := V_DEF
  refine g_aloadN C (pc' := 1) d6_0 rfl rfl rfl ?_
  refine g_special C (pc' := 4) (k' := 0) (n' := 0) (argsL := []) (rest := []) (wd hw 43 rfl) (wd hw 44 rfl) (wd hw 47 rfl) (wd hw 48 rfl) (by decide) rfl d6_1 pd_2 rfl rfl rfl (acol_0 l Z a0 hw n0 h O s_BOOL s_I16 s_I32 s_BYTE s_DOUBLE s_I64 s_MAP s_STRUCT s_LIST s_SET s_STRING s_DEF H a E0) (Nat.le_of_ble_eq_true rfl) (Nat.le_of_ble_eq_true rfl) (Nat.le_of_ble_eq_true rfl) (Nat.le_of_ble_eq_true rfl) rfl rfl rfl (fun v11 h10 q12 => ?_)
  obtain ⟨rfl, eh10⟩ := q12
  subst h10
  show G w _ h 0 0 4 #[.val (.ref a)] []
  refine g_aloadN C (pc' := 5) d6_4 rfl rfl rfl ?_
  refine g_iconst C (pc' := 6) (v := (0 : Int32)) d6_5 (by decide) rfl ?_
  refine g_putF C (pc' := 9) (ty := .int) (wd hw 50 rfl) Via.refl d6_6 rfl F1 E0 (Or.inl (wd hw 51 rfl)) (wd hw 32 rfl) (by decide) rfl rfl ga rfl (fun h13 W14 => ?_)
  have f15 := O.wr W14 ga
  have f16 := (Keep.refl h [a]).wr W14 (Or.inl (List.mem_of_getElem? (i := 0) rfl))
  have f17 := E0.wr W14
  have f18 := F1.same W14
  exact g_return C d6_9 rfl (Nat.le_of_ble_eq_true rfl) (Nat.le_of_ble_eq_true rfl) (⟨rfl, f16, f17, f18, fun L q ⟨t, ht⟩ F => F.other W14 (Or.inr (slot_ne L (Or.inl (wd hw 51 rfl)) q ht (t' := .int) (by decide)))⟩)
theorem d5_0 : decode jdk_38_method_2_code 0 = .ok (.aload_n 0, 1) := by decide +kernel
theorem d5_1 : decode jdk_38_method_2_code 1 = .ok (.invokespecial 1, 3) := by decide +kernel
theorem d5_4 : decode jdk_38_method_2_code 4 = .ok (.aload_n 0, 1) := by decide +kernel
theorem d5_5 : decode jdk_38_method_2_code 5 = .ok (.getstatic 39, 3) := by decide +kernel
theorem d5_8 : decode jdk_38_method_2_code 8 = .ok (.putfield 9, 3) := by decide +kernel
theorem d5_11 : decode jdk_38_method_2_code 11 = .ok (.return_, 1) := by decide +kernel
theorem pn_8 : plainName "java/util/ArrayList" = true := by first | (simp [plainName, overriddenIn]; done) | decide +kernel
set_option maxRecDepth 65536 in
set_option maxHeartbeats 40000000 in
theorem al_init (l : Launch) (Z : State) (a0 : Array Value) (hw : ∀ d ∈ tables_1, d.before a0 Z = true) (n0 : Nat) (h : Heap) (O : Old Z n0 h) (s_BOOL : Addr) (s_I16 : Addr) (s_I32 : Addr) (s_BYTE : Addr) (s_DOUBLE : Addr) (s_I64 : Addr) (s_MAP : Addr) (s_STRUCT : Addr) (s_LIST : Addr) (s_SET : Addr) (s_STRING : Addr) (s_DEF : Addr) (H : En Z s_BOOL s_I16 s_I32 s_BYTE s_DOUBLE s_I64 s_MAP s_STRUCT s_LIST s_SET s_STRING s_DEF) (a : Addr) (ga : n0 ≤ a) (E0 : Exa Z h a "java/util/ArrayList") (F1 : Fld Z h a "java/util/AbstractList" "modCount" "I" (.int (0 : Int32))) (F2 : Fld Z h a "java/util/ArrayList" "elementData" "[Ljava/lang/Object;" .null) (F3 : Fld Z h a "java/util/ArrayList" "size" "I" (.int (0 : Int32))) : Con l Z (⟨"java/util/ArrayList", "<init>", "()V"⟩ : MethodName) jdk_38_method_2_code 1 none ({ frames := 3, cells := 0, slots := 0, locals := 36 } : Room) #[(.ref a)] h n0 (fun v h' => v = none ∧ Keep h h' [a] ∧ AL0 Z n0 h' a s_DEF (0 : Int32)) := by
  refine Con.mk (Ls := #[.val (.ref a)]) (plainFor_of_name pn_8) (fun m => by first | (simp [entryFrame, mkF, argsToLocals, Value.category]; done) | rfl) (fun w C => ?_)
  replace C : Cx w l Z "java/util/ArrayList" jdk_38_method_2_code 1 none "<init>" ({ frames := 3, cells := 0, slots := 0, locals := 36 } : Room) n0 := C
  obtain ⟨S_BOOL, E_BOOL, S_I16, E_I16, S_I32, E_I32, S_BYTE, E_BYTE, S_DOUBLE, E_DOUBLE, S_I64, E_I64, S_MAP, E_MAP, S_STRUCT, E_STRUCT, S_LIST, E_LIST, S_SET, E_SET, S_STRING, E_STRING, F_I32_ordinal, F_I64_ordinal, F_I16_ordinal, F_DOUBLE_ordinal, F_BYTE_ordinal, F_BOOL_ordinal, F_LIST_ordinal, F_SET_ordinal, F_STRUCT_ordinal, F_STRING_ordinal, F_MAP_ordinal, S_DEF, E_DEF, V_DEF⟩ := id H
  obtain ⟨kD, V_DEF⟩ := V_DEF
  refine g_aloadN C (pc' := 1) d5_0 rfl rfl rfl ?_
  refine g_special C (pc' := 4) (k' := 0) (n' := 0) (argsL := []) (rest := []) (wd hw 37 rfl) (wd hw 38 rfl) (wd hw 41 rfl) (wd hw 42 rfl) (by decide) rfl d5_1 pd_2 rfl rfl rfl (abl l Z a0 hw n0 h O s_BOOL s_I16 s_I32 s_BYTE s_DOUBLE s_I64 s_MAP s_STRUCT s_LIST s_SET s_STRING s_DEF H a ga E0 F1) (Nat.le_of_ble_eq_true rfl) (Nat.le_of_ble_eq_true rfl) (Nat.le_of_ble_eq_true rfl) (Nat.le_of_ble_eq_true rfl) rfl rfl rfl (fun v24 h23 q25 => ?_)
  obtain ⟨rfl, K19, E20, F21, T22⟩ := q25
  have f26 := O.keep K19 (allS ga all0)
  have f27 := (Keep.refl h [a]).trans K19 (allS (Or.inl (List.mem_of_getElem? (i := 0) rfl)) all0)
  have f28 := E0.keep K19
  have f29 := T22 (Or.inl (wd hw 54 rfl)) (by decide) ⟨_, (by decide : parseFieldDescriptor "[Ljava/lang/Object;" = some (.array (.object "java/lang/Object")))⟩ F2
  have f30 := T22 (Or.inl (wd hw 63 rfl)) (by decide) ⟨_, (by decide : parseFieldDescriptor "I" = some .int)⟩ F3
  show G w _ h23 0 0 4 #[.val (.ref a)] []
  refine g_aloadN C (pc' := 5) d5_4 rfl rfl rfl ?_
  refine g_getS C (pc' := 8) (wd hw 52 rfl) Via.refl d5_5 (S_DEF.ext f26.2) rfl ?_
  refine g_putF C (pc' := 11) (ty := (.array (.object "java/lang/Object"))) (wd hw 53 rfl) Via.refl d5_8 rfl f29 f28 (Or.inl (wd hw 54 rfl)) (wd hw 32 rfl) (by decide) rfl rfl ga rfl (fun h31 W32 => ?_)
  have f33 := f26.wr W32 ga
  have f34 := f27.wr W32 (Or.inl (List.mem_of_getElem? (i := 0) rfl))
  have f35 := f28.wr W32
  have f36 := F21.other W32 (Or.inr (slot_ne (Or.inl (wd hw 51 rfl)) (Or.inl (wd hw 54 rfl)) (by decide) (t := .int) (t' := (.array (.object "java/lang/Object"))) (by decide) (by decide)))
  have f37 := f29.same W32
  have f38 := f30.other W32 (Or.inr (slot_ne (Or.inl (wd hw 63 rfl)) (Or.inl (wd hw 54 rfl)) (by decide) (t := .int) (t' := (.array (.object "java/lang/Object"))) (by decide) (by decide)))
  exact g_return C d5_11 rfl (Nat.le_of_ble_eq_true rfl) (Nat.le_of_ble_eq_true rfl) (⟨rfl, f34, ga, f35, f36, f37, f38⟩)
theorem d12_0 : decode jdk_29_method_65_code 0 = .ok (.iload_n 0, 1) := by decide +kernel
theorem d12_1 : decode jdk_29_method_65_code 1 = .ok (.iload_n 1, 1) := by decide +kernel
theorem d12_2 : decode jdk_29_method_65_code 2 = .ok (.if_icmp .lt 7, 3) := by decide +kernel
theorem d12_5 : decode jdk_29_method_65_code 5 = .ok (.iload_n 0, 1) := by decide +kernel
theorem d12_6 : decode jdk_29_method_65_code 6 = .ok (.goto 4, 3) := by decide +kernel
theorem d12_10 : decode jdk_29_method_65_code 10 = .ok (.ireturn, 1) := by decide +kernel
set_option maxRecDepth 65536 in
set_option maxHeartbeats 40000000 in
theorem max_10_1 (l : Launch) (Z : State) (a0 : Array Value) (hw : ∀ d ∈ tables_1, d.before a0 Z = true) (n0 : Nat) (h : Heap) (O : Old Z n0 h) (s_BOOL : Addr) (s_I16 : Addr) (s_I32 : Addr) (s_BYTE : Addr) (s_DOUBLE : Addr) (s_I64 : Addr) (s_MAP : Addr) (s_STRUCT : Addr) (s_LIST : Addr) (s_SET : Addr) (s_STRING : Addr) (s_DEF : Addr) (H : En Z s_BOOL s_I16 s_I32 s_BYTE s_DOUBLE s_I64 s_MAP s_STRUCT s_LIST s_SET s_STRING s_DEF) : Con l Z (⟨"java/lang/Math", "max", "(II)I"⟩ : MethodName) jdk_29_method_65_code 2 (some .int) ({ frames := 0, cells := 0, slots := 0, locals := 0 } : Room) #[(.int (10 : Int32)), (.int (1 : Int32))] h n0 (fun v h' => v = some (.int (10 : Int32)) ∧ h' = h) := by
  refine Con.mk (Ls := #[.val (.int (10 : Int32)), .val (.int (1 : Int32))]) (Jvm.Free.JP.mathPlain rfl (by decide +kernel)) (fun m => by first | (simp [entryFrame, mkF, argsToLocals, Value.category]; done) | rfl) (fun w C => ?_)
  replace C : Cx w l Z "java/lang/Math" jdk_29_method_65_code 2 (some .int) "max" ({ frames := 0, cells := 0, slots := 0, locals := 0 } : Room) n0 := C
  obtain ⟨S_BOOL, E_BOOL, S_I16, E_I16, S_I32, E_I32, S_BYTE, E_BYTE, S_DOUBLE, E_DOUBLE, S_I64, E_I64, S_MAP, E_MAP, S_STRUCT, E_STRUCT, S_LIST, E_LIST, S_SET, E_SET, S_STRING, E_STRING, F_I32_ordinal, F_I64_ordinal, F_I16_ordinal, F_DOUBLE_ordinal, F_BYTE_ordinal, F_BOOL_ordinal, F_LIST_ordinal, F_SET_ordinal, F_STRUCT_ordinal, F_STRING_ordinal, F_MAP_ordinal, S_DEF, E_DEF, V_DEF⟩ := id H
  refine g_iloadN C (pc' := 1) d12_0 rfl rfl ?_
  refine g_iloadN C (pc' := 2) d12_1 rfl rfl ?_
  refine g_icN C (pc' := 5) d12_2 rfl (by decide) rfl ?_
  refine g_iloadN C (pc' := 6) d12_5 rfl rfl ?_
  refine g_goto C (pc' := 10) d12_6 (by decide) rfl ?_
  exact g_ireturn C d12_10 rfl (Nat.le_of_ble_eq_true rfl) (Nat.le_of_ble_eq_true rfl) (⟨rfl, rfl⟩)
theorem d11_0 : decode jdk_38_method_6_code 0 = .ok (.aload_n 0, 1) := by decide +kernel
theorem d11_1 : decode jdk_38_method_6_code 1 = .ok (.getfield 9, 3) := by decide +kernel
theorem d11_4 : decode jdk_38_method_6_code 4 = .ok (.arraylength, 1) := by decide +kernel
theorem d11_5 : decode jdk_38_method_6_code 5 = .ok (.istore_n 2, 1) := by decide +kernel
theorem d11_6 : decode jdk_38_method_6_code 6 = .ok (.iload_n 2, 1) := by decide +kernel
theorem d11_7 : decode jdk_38_method_6_code 7 = .ok (.ifCond .gt 13, 3) := by decide +kernel
theorem d11_10 : decode jdk_38_method_6_code 10 = .ok (.aload_n 0, 1) := by decide +kernel
theorem d11_11 : decode jdk_38_method_6_code 11 = .ok (.getfield 9, 3) := by decide +kernel
theorem d11_14 : decode jdk_38_method_6_code 14 = .ok (.getstatic 39, 3) := by decide +kernel
theorem d11_17 : decode jdk_38_method_6_code 17 = .ok (.if_acmp .eq 28, 3) := by decide +kernel
theorem d11_45 : decode jdk_38_method_6_code 45 = .ok (.aload_n 0, 1) := by decide +kernel
theorem d11_46 : decode jdk_38_method_6_code 46 = .ok (.bipush 10, 2) := by decide +kernel
theorem d11_48 : decode jdk_38_method_6_code 48 = .ok (.iload_n 1, 1) := by decide +kernel
theorem d11_49 : decode jdk_38_method_6_code 49 = .ok (.invokestatic 79, 3) := by decide +kernel
theorem pd_7 : parseMethodDescriptor "(II)I" = some ⟨[.int, .int], some .int⟩ := by decide +kernel
theorem d11_52 : decode jdk_38_method_6_code 52 = .ok (.anewarray 7, 3) := by decide +kernel
theorem d11_55 : decode jdk_38_method_6_code 55 = .ok (.dup_x1, 1) := by decide +kernel
theorem d11_56 : decode jdk_38_method_6_code 56 = .ok (.putfield 9, 3) := by decide +kernel
theorem d11_59 : decode jdk_38_method_6_code 59 = .ok (.areturn, 1) := by decide +kernel
set_option maxRecDepth 65536 in
set_option maxHeartbeats 40000000 in
theorem growI (l : Launch) (Z : State) (a0 : Array Value) (hw : ∀ d ∈ tables_1, d.before a0 Z = true) (n0 : Nat) (h : Heap) (O : Old Z n0 h) (s_BOOL : Addr) (s_I16 : Addr) (s_I32 : Addr) (s_BYTE : Addr) (s_DOUBLE : Addr) (s_I64 : Addr) (s_MAP : Addr) (s_STRUCT : Addr) (s_LIST : Addr) (s_SET : Addr) (s_STRING : Addr) (s_DEF : Addr) (H : En Z s_BOOL s_I16 s_I32 s_BYTE s_DOUBLE s_I64 s_MAP s_STRUCT s_LIST s_SET s_STRING s_DEF) (a : Addr) (mc : Int32) (P : AL0 Z n0 h a s_DEF mc) : Con l Z (⟨"java/util/ArrayList", "grow", "(I)[Ljava/lang/Object;"⟩ : MethodName) jdk_38_method_6_code 4 (some (.array (.object "java/lang/Object"))) ({ frames := 1, cells := 1, slots := 10, locals := 14 } : Room) #[(.ref a), (.int (1 : Int32))] h n0 (fun v h' => ∃ g kG, v = some (.ref g) ∧ h.size ≤ g ∧ Keep h h' [a] ∧ Exa Z h' a "java/util/ArrayList" ∧ Exa Z h' g "[Ljava/lang/Object;" ∧ Ovr Z kG "java/lang/Object" ∧ Fld Z h' a "java/util/AbstractList" "modCount" "I" (.int mc) ∧ Fld Z h' a "java/util/ArrayList" "elementData" "[Ljava/lang/Object;" (.ref g) ∧ Fld Z h' a "java/util/ArrayList" "size" "I" (.int (0 : Int32)) ∧ Arv Z h' g kG (.object "java/lang/Object") (10 : Int32) [.null, .null, .null, .null, .null, .null, .null, .null, .null, .null] .null) := by
  refine Con.mk (Ls := #[.val (.ref a), .val (.int (1 : Int32)), .unset, .unset]) (plainFor_of_name pn_8) (fun m => by first | (simp [entryFrame, mkF, argsToLocals, Value.category]; done) | rfl) (fun w C => ?_)
  replace C : Cx w l Z "java/util/ArrayList" jdk_38_method_6_code 4 (some (.array (.object "java/lang/Object"))) "grow" ({ frames := 1, cells := 1, slots := 10, locals := 14 } : Room) n0 := C
  obtain ⟨S_BOOL, E_BOOL, S_I16, E_I16, S_I32, E_I32, S_BYTE, E_BYTE, S_DOUBLE, E_DOUBLE, S_I64, E_I64, S_MAP, E_MAP, S_STRUCT, E_STRUCT, S_LIST, E_LIST, S_SET, E_SET, S_STRING, E_STRING, F_I32_ordinal, F_I64_ordinal, F_I16_ordinal, F_DOUBLE_ordinal, F_BYTE_ordinal, F_BOOL_ordinal, F_LIST_ordinal, F_SET_ordinal, F_STRUCT_ordinal, F_STRING_ordinal, F_MAP_ordinal, S_DEF, E_DEF, V_DEF⟩ := id H
  obtain ⟨kD, V_DEF⟩ := V_DEF
  obtain ⟨ga, E0, F1, F2, F3⟩ := P
  refine g_aloadN C (pc' := 1) d11_0 rfl rfl rfl ?_
  refine g_getF C (pc' := 4) (wd hw 53 rfl) Via.refl d11_1 rfl F2 rfl ?_
  refine g_alen C (pc' := 5) d11_4 rfl (V_DEF.ext O.2) rfl ?_
  refine g_istoreN C (pc' := 6) (Ls' := #[.val (.ref a), .val (.int (1 : Int32)), .val (.int (0 : Int32)), .unset]) d11_5 rfl rfl rfl ?_
  refine g_iloadN C (pc' := 7) d11_6 rfl rfl ?_
  refine g_ifN C (pc' := 10) d11_7 rfl (by decide) rfl ?_
  refine g_aloadN C (pc' := 11) d11_10 rfl rfl rfl ?_
  refine g_getF C (pc' := 14) (wd hw 53 rfl) Via.refl d11_11 rfl F2 rfl ?_
  refine g_getS C (pc' := 17) (wd hw 52 rfl) Via.refl d11_14 (S_DEF.ext O.2) rfl ?_
  refine g_acmp C (pc' := 45) (same := true) d11_17 rfl rfl rfl (decide_eq_true rfl) (by decide) (by decide) ?_
  refine g_aloadN C (pc' := 46) d11_45 rfl rfl rfl ?_
  refine g_bipush C (pc' := 48) (v := (10 : Int32)) d11_46 (by decide) rfl ?_
  refine g_iloadN C (pc' := 49) d11_48 rfl rfl ?_
  refine g_callS C (pc' := 52) (k' := 0) (n' := 0) (argsL := [(.int (10 : Int32)), (.int (1 : Int32))]) (rest := [(.ref a)]) (wd hw 79 rfl) (wd hw 80 rfl) (wd hw 81 rfl) (wd hw 82 rfl) (by decide) d11_49 pd_7 rfl rfl rfl (max_10_1 l Z a0 hw n0 h O s_BOOL s_I16 s_I32 s_BYTE s_DOUBLE s_I64 s_MAP s_STRUCT s_LIST s_SET s_STRING s_DEF H) (Nat.le_of_ble_eq_true rfl) (Nat.le_of_ble_eq_true rfl) (Nat.le_of_ble_eq_true rfl) (Nat.le_of_ble_eq_true rfl) rfl rfl rfl (fun v40 h39 q41 => ?_)
  obtain ⟨rfl, eh39⟩ := q41
  subst h39
  show G w _ h 0 0 52 #[.val (.ref a), .val (.int (1 : Int32)), .val (.int (0 : Int32)), .unset] [(.int (10 : Int32)), (.ref a)]
  refine g_newRE C (pc' := 55) (k' := 1) (n' := 10) (cap := 10) (ad := "[Ljava/lang/Object;") (wd hw 83 rfl) (wd hw 84 rfl) (by decide) d11_52 rfl (by decide) (by decide) (by decide) (by decide) (by decide) rfl rfl rfl (fun h42 b43 kA44 ex45 E46 A47 B49 Ov48 => ?_)
  have ne_a_b43 : a ≠ b43 := Nat.ne_of_lt (by rw [ex45]; exact E0.lt)
  have ne_s_DEF_b43 : s_DEF ≠ b43 := Nat.ne_of_lt (by rw [ex45]; exact (V_DEF.ext O.2).lt)
  have ge_b43 : n0 ≤ b43 := by rw [ex45]; exact O.1 ▸ O.2.1
  have sz_b43 : h.size ≤ b43 := by rw [ex45]; exact (Keep.refl h [a]).1
  have f50 := O.ext E46
  have f51 := (Keep.refl h [a]).ext E46
  have f52 := E0.ext E46
  have f53 := F1.ext E46
  have f54 := F2.ext E46
  have f55 := F3.ext E46
  have f56 := (V_DEF.ext O.2).ext E46
  have A57 : Arv Z h42 b43 kA44 (.object "java/lang/Object") (10 : Int32) [.null, .null, .null, .null, .null, .null, .null, .null, .null, .null] .null := A47.pad (pad_rep [] .null 10)
  refine g_dup_x1 C (pc' := 56) d11_55 rfl rfl rfl rfl ?_
  refine g_putF C (pc' := 59) (ty := (.array (.object "java/lang/Object"))) (wd hw 53 rfl) Via.refl d11_56 rfl f54 f52 (Or.inl (wd hw 54 rfl)) (wd hw 32 rfl) (by decide) rfl rfl ga rfl (fun h58 W59 => ?_)
  have f60 := f50.wr W59 ga
  have f61 := f51.wr W59 (Or.inl (List.mem_of_getElem? (i := 0) rfl))
  have f62 := f52.wr W59
  have f63 := f53.other W59 (Or.inr (slot_ne (Or.inl (wd hw 51 rfl)) (Or.inl (wd hw 54 rfl)) (by decide) (t := .int) (t' := (.array (.object "java/lang/Object"))) (by decide) (by decide)))
  have f64 := f54.same W59
  have f65 := f55.other W59 (Or.inr (slot_ne (Or.inl (wd hw 63 rfl)) (Or.inl (wd hw 54 rfl)) (by decide) (t := .int) (t' := (.array (.object "java/lang/Object"))) (by decide) (by decide)))
  have f66 := f56.other W59 (O.ne V_DEF.lt ga)
  have f67 := A57.other W59 (Ne.symm ne_a_b43)
  have f68 := B49.wr W59
  exact g_areturn C d11_59 rfl rfl rfl rfl (Nat.le_of_ble_eq_true rfl) (Nat.le_of_ble_eq_true rfl) (⟨b43, kA44, rfl, sz_b43, f61, f62, f68, Ov48, f63, f64, f65, f67⟩)
theorem d10_0 : decode jdk_38_method_7_code 0 = .ok (.aload_n 0, 1) := by decide +kernel
theorem d10_1 : decode jdk_38_method_7_code 1 = .ok (.aload_n 0, 1) := by decide +kernel
theorem d10_2 : decode jdk_38_method_7_code 2 = .ok (.getfield 48, 3) := by decide +kernel
theorem d10_5 : decode jdk_38_method_7_code 5 = .ok (.iconst 1, 1) := by decide +kernel
theorem d10_6 : decode jdk_38_method_7_code 6 = .ok (.iadd, 1) := by decide +kernel
theorem d10_7 : decode jdk_38_method_7_code 7 = .ok (.invokevirtual 69, 3) := by decide +kernel
theorem pd_6 : parseMethodDescriptor "(I)[Ljava/lang/Object;" = some ⟨[.int], some (.array (.object "java/lang/Object"))⟩ := by decide +kernel
theorem d10_10 : decode jdk_38_method_7_code 10 = .ok (.areturn, 1) := by decide +kernel
set_option maxRecDepth 65536 in
set_option maxHeartbeats 40000000 in
theorem grow0 (l : Launch) (Z : State) (a0 : Array Value) (hw : ∀ d ∈ tables_1, d.before a0 Z = true) (n0 : Nat) (h : Heap) (O : Old Z n0 h) (s_BOOL : Addr) (s_I16 : Addr) (s_I32 : Addr) (s_BYTE : Addr) (s_DOUBLE : Addr) (s_I64 : Addr) (s_MAP : Addr) (s_STRUCT : Addr) (s_LIST : Addr) (s_SET : Addr) (s_STRING : Addr) (s_DEF : Addr) (H : En Z s_BOOL s_I16 s_I32 s_BYTE s_DOUBLE s_I64 s_MAP s_STRUCT s_LIST s_SET s_STRING s_DEF) (a : Addr) (mc : Int32) (P : AL0 Z n0 h a s_DEF mc) : Con l Z (⟨"java/util/ArrayList", "grow", "()[Ljava/lang/Object;"⟩ : MethodName) jdk_38_method_7_code 1 (some (.array (.object "java/lang/Object"))) ({ frames := 2, cells := 1, slots := 10, locals := 29 } : Room) #[(.ref a)] h n0 (fun v h' => ∃ g kG, v = some (.ref g) ∧ h.size ≤ g ∧ Keep h h' [a] ∧ Exa Z h' a "java/util/ArrayList" ∧ Exa Z h' g "[Ljava/lang/Object;" ∧ Ovr Z kG "java/lang/Object" ∧ Fld Z h' a "java/util/AbstractList" "modCount" "I" (.int mc) ∧ Fld Z h' a "java/util/ArrayList" "elementData" "[Ljava/lang/Object;" (.ref g) ∧ Fld Z h' a "java/util/ArrayList" "size" "I" (.int (0 : Int32)) ∧ Arv Z h' g kG (.object "java/lang/Object") (10 : Int32) [.null, .null, .null, .null, .null, .null, .null, .null, .null, .null] .null) := by
  refine Con.mk (Ls := #[.val (.ref a)]) (plainFor_of_name pn_8) (fun m => by first | (simp [entryFrame, mkF, argsToLocals, Value.category]; done) | rfl) (fun w C => ?_)
  replace C : Cx w l Z "java/util/ArrayList" jdk_38_method_7_code 1 (some (.array (.object "java/lang/Object"))) "grow" ({ frames := 2, cells := 1, slots := 10, locals := 29 } : Room) n0 := C
  obtain ⟨S_BOOL, E_BOOL, S_I16, E_I16, S_I32, E_I32, S_BYTE, E_BYTE, S_DOUBLE, E_DOUBLE, S_I64, E_I64, S_MAP, E_MAP, S_STRUCT, E_STRUCT, S_LIST, E_LIST, S_SET, E_SET, S_STRING, E_STRING, F_I32_ordinal, F_I64_ordinal, F_I16_ordinal, F_DOUBLE_ordinal, F_BYTE_ordinal, F_BOOL_ordinal, F_LIST_ordinal, F_SET_ordinal, F_STRUCT_ordinal, F_STRING_ordinal, F_MAP_ordinal, S_DEF, E_DEF, V_DEF⟩ := id H
  obtain ⟨kD, V_DEF⟩ := V_DEF
  obtain ⟨ga, E0, F1, F2, F3⟩ := P
  refine g_aloadN C (pc' := 1) d10_0 rfl rfl rfl ?_
  refine g_aloadN C (pc' := 2) d10_1 rfl rfl rfl ?_
  refine g_getF C (pc' := 5) (wd hw 62 rfl) Via.refl d10_2 rfl F3 rfl ?_
  refine g_iconst C (pc' := 6) (v := (1 : Int32)) d10_5 (by decide) rfl ?_
  refine g_iadd C (pc' := 7) d10_6 rfl rfl ?_
  rw [show ((0 : Int32) + (1 : Int32)) = (1 : Int32) from by decide]
  refine g_private C (pc' := 10) (k' := 1) (n' := 10) (argsL := [(.int (1 : Int32))]) (rest := []) (wd hw 74 rfl) (wd hw 75 rfl) (wd hw 32 rfl) (wd hw 76 rfl) (wd hw 33 rfl) (wd hw 78 rfl) (by decide) d10_7 pd_6 rfl rfl rfl E0 (growI l Z a0 hw n0 h O s_BOOL s_I16 s_I32 s_BYTE s_DOUBLE s_I64 s_MAP s_STRUCT s_LIST s_SET s_STRING s_DEF H a mc ⟨ga, E0, F1, F2, F3⟩) (Nat.le_of_ble_eq_true rfl) (Nat.le_of_ble_eq_true rfl) (Nat.le_of_ble_eq_true rfl) (Nat.le_of_ble_eq_true rfl) rfl rfl rfl (fun v70 h69 q71 => ?_)
  obtain ⟨g, kG, rfl, q1, q2, q3, q4, q5, q6, q7, q8, q9⟩ := q71
  have f72 := O.keep q2 (allS ga all0)
  have f73 := (Keep.refl h [a]).trans q2 (allS (Or.inl (List.mem_of_getElem? (i := 0) rfl)) all0)
  have f74 := E0.keep q2
  have f75 := (V_DEF.ext O.2).keep q2 (ninS (O.ne V_DEF.lt ga) nin0)
  show G w _ h69 1 10 10 #[.val (.ref a)] [(.ref g)]
  exact g_areturn C d10_10 rfl rfl rfl rfl (Nat.le_of_ble_eq_true rfl) (Nat.le_of_ble_eq_true rfl) (⟨g, kG, rfl, q1, q2, q3, q4, q5, q6, q7, q8, q9⟩)
theorem d9_0 : decode jdk_38_method_24_code 0 = .ok (.iload_n 3, 1) := by decide +kernel
theorem d9_1 : decode jdk_38_method_24_code 1 = .ok (.aload_n 2, 1) := by decide +kernel
theorem d9_2 : decode jdk_38_method_24_code 2 = .ok (.arraylength, 1) := by decide +kernel
theorem d9_3 : decode jdk_38_method_24_code 3 = .ok (.if_icmp .ne 8, 3) := by decide +kernel
theorem d9_6 : decode jdk_38_method_24_code 6 = .ok (.aload_n 0, 1) := by decide +kernel
theorem d9_7 : decode jdk_38_method_24_code 7 = .ok (.invokevirtual 129, 3) := by decide +kernel
theorem pd_5 : parseMethodDescriptor "()[Ljava/lang/Object;" = some ⟨[], some (.array (.object "java/lang/Object"))⟩ := by decide +kernel
theorem d9_10 : decode jdk_38_method_24_code 10 = .ok (.astore_n 2, 1) := by decide +kernel
theorem d9_11 : decode jdk_38_method_24_code 11 = .ok (.aload_n 2, 1) := by decide +kernel
theorem d9_12 : decode jdk_38_method_24_code 12 = .ok (.iload_n 3, 1) := by decide +kernel
theorem d9_13 : decode jdk_38_method_24_code 13 = .ok (.aload_n 1, 1) := by decide +kernel
theorem d9_14 : decode jdk_38_method_24_code 14 = .ok (.aastore, 1) := by decide +kernel
theorem d9_15 : decode jdk_38_method_24_code 15 = .ok (.aload_n 0, 1) := by decide +kernel
theorem d9_16 : decode jdk_38_method_24_code 16 = .ok (.iload_n 3, 1) := by decide +kernel
theorem d9_17 : decode jdk_38_method_24_code 17 = .ok (.iconst 1, 1) := by decide +kernel
theorem d9_18 : decode jdk_38_method_24_code 18 = .ok (.iadd, 1) := by decide +kernel
theorem d9_19 : decode jdk_38_method_24_code 19 = .ok (.putfield 48, 3) := by decide +kernel
theorem d9_22 : decode jdk_38_method_24_code 22 = .ok (.return_, 1) := by decide +kernel
set_option maxRecDepth 65536 in
set_option maxHeartbeats 40000000 in
theorem add3_0 (l : Launch) (Z : State) (a0 : Array Value) (hw : ∀ d ∈ tables_1, d.before a0 Z = true) (n0 : Nat) (h : Heap) (O : Old Z n0 h) (s_BOOL : Addr) (s_I16 : Addr) (s_I32 : Addr) (s_BYTE : Addr) (s_DOUBLE : Addr) (s_I64 : Addr) (s_MAP : Addr) (s_STRUCT : Addr) (s_LIST : Addr) (s_SET : Addr) (s_STRING : Addr) (s_DEF : Addr) (H : En Z s_BOOL s_I16 s_I32 s_BYTE s_DOUBLE s_I64 s_MAP s_STRUCT s_LIST s_SET s_STRING s_DEF) (a : Addr) (mc : Int32) (x : Addr) (Ex : Exa Z h x "com/example/strictwire/strictwire/I32Value") (P : AL0 Z n0 h a s_DEF mc) : Con l Z (⟨"java/util/ArrayList", "add", "(Ljava/lang/Object;[Ljava/lang/Object;I)V"⟩ : MethodName) jdk_38_method_24_code 4 none ({ frames := 3, cells := 1, slots := 10, locals := 41 } : Room) #[(.ref a), (.ref x), (.ref s_DEF), (.int (0 : Int32))] h n0 (fun v h' => v = none ∧ Keep h h' [a] ∧ ∃ ed kE, h.size ≤ ed ∧ AL1 Z n0 h' a ed kE mc (1 : Int32) [(.ref x), .null, .null, .null, .null, .null, .null, .null, .null, .null]) := by
  refine Con.mk (Ls := #[.val (.ref a), .val (.ref x), .val (.ref s_DEF), .val (.int (0 : Int32))]) (plainFor_of_name pn_8) (fun m => by first | (simp [entryFrame, mkF, argsToLocals, Value.category]; done) | rfl) (fun w C => ?_)
  replace C : Cx w l Z "java/util/ArrayList" jdk_38_method_24_code 4 none "add" ({ frames := 3, cells := 1, slots := 10, locals := 41 } : Room) n0 := C
  obtain ⟨S_BOOL, E_BOOL, S_I16, E_I16, S_I32, E_I32, S_BYTE, E_BYTE, S_DOUBLE, E_DOUBLE, S_I64, E_I64, S_MAP, E_MAP, S_STRUCT, E_STRUCT, S_LIST, E_LIST, S_SET, E_SET, S_STRING, E_STRING, F_I32_ordinal, F_I64_ordinal, F_I16_ordinal, F_DOUBLE_ordinal, F_BYTE_ordinal, F_BOOL_ordinal, F_LIST_ordinal, F_SET_ordinal, F_STRUCT_ordinal, F_STRING_ordinal, F_MAP_ordinal, S_DEF, E_DEF, V_DEF⟩ := id H
  obtain ⟨kD, V_DEF⟩ := V_DEF
  obtain ⟨ga, E0, F1, F2, F3⟩ := P
  refine g_iloadN C (pc' := 1) d9_0 rfl rfl ?_
  refine g_aloadN C (pc' := 2) d9_1 rfl rfl rfl ?_
  refine g_alen C (pc' := 3) d9_2 rfl (V_DEF.ext O.2) rfl ?_
  refine g_icN C (pc' := 6) d9_3 rfl (by decide) rfl ?_
  refine g_aloadN C (pc' := 7) d9_6 rfl rfl rfl ?_
  refine g_private C (pc' := 10) (k' := 1) (n' := 10) (argsL := []) (rest := []) (wd hw 69 rfl) (wd hw 70 rfl) (wd hw 32 rfl) (wd hw 71 rfl) (wd hw 33 rfl) (wd hw 73 rfl) (by decide) d9_7 pd_5 rfl rfl rfl E0 (grow0 l Z a0 hw n0 h O s_BOOL s_I16 s_I32 s_BYTE s_DOUBLE s_I64 s_MAP s_STRUCT s_LIST s_SET s_STRING s_DEF H a mc ⟨ga, E0, F1, F2, F3⟩) (Nat.le_of_ble_eq_true rfl) (Nat.le_of_ble_eq_true rfl) (Nat.le_of_ble_eq_true rfl) (Nat.le_of_ble_eq_true rfl) rfl rfl rfl (fun v77 h76 q78 => ?_)
  obtain ⟨g, kG, rfl, q1, q2, q3, q4, q5, q6, q7, q8, q9⟩ := q78
  have ne_a_g : a ≠ g := Nat.ne_of_lt (Nat.lt_of_lt_of_le E0.lt q1)
  have ne_s_DEF_g : s_DEF ≠ g := Nat.ne_of_lt (Nat.lt_of_lt_of_le (V_DEF.ext O.2).lt q1)
  have ne_x_g : x ≠ g := Nat.ne_of_lt (Nat.lt_of_lt_of_le Ex.lt q1)
  have ge_g : n0 ≤ g := Nat.le_trans (O.1 ▸ O.2.1) q1
  have sz_g : h.size ≤ g := Nat.le_trans (Keep.refl h [a]).1 q1
  have f79 := O.keep q2 (allS ga all0)
  have f80 := (Keep.refl h [a]).trans q2 (allS (Or.inl (List.mem_of_getElem? (i := 0) rfl)) all0)
  have f81 := E0.keep q2
  have f82 := (V_DEF.ext O.2).keep q2 (ninS (O.ne V_DEF.lt ga) nin0)
  have f83 := Ex.keep q2
  show G w _ h76 1 10 10 #[.val (.ref a), .val (.ref x), .val (.ref s_DEF), .val (.int (0 : Int32))] [(.ref g)]
  refine g_astoreN C (pc' := 11) (Ls' := #[.val (.ref a), .val (.ref x), .val (.ref g), .val (.int (0 : Int32))]) d9_10 rfl rfl rfl rfl ?_
  refine g_aloadN C (pc' := 12) d9_11 rfl rfl rfl ?_
  refine g_iloadN C (pc' := 13) d9_12 rfl rfl ?_
  refine g_aloadN C (pc' := 14) d9_13 rfl rfl rfl ?_
  refine g_aastore C (pc' := 15) d9_14 rfl q9 rfl (stoR q9 q5 (Ins.of_exa f83 (wd hw 85 rfl))) (by decide) (by decide) ge_g rfl (fun h84 W85 => ?_)
  have f86 := f79.wr W85 ge_g
  have f87 := f80.wr W85 (Or.inr sz_g)
  have f88 := q3.wr W85
  have f89 := f82.other W85 ne_s_DEF_g
  have f90 := f83.wr W85
  have f91 := q4.wr W85
  have f92 := q6.other W85 (Or.inl ne_a_g)
  have f93 := q7.other W85 (Or.inl ne_a_g)
  have f94 := q8.other W85 (Or.inl ne_a_g)
  have f95 := (arv_put q9 rfl W85 (i := 0) rfl (Nat.le_of_ble_eq_true rfl) : Arv Z h84 g kG (.object "java/lang/Object") (10 : Int32) [(.ref x), .null, .null, .null, .null, .null, .null, .null, .null, .null] .null)
  refine g_aloadN C (pc' := 16) d9_15 rfl rfl rfl ?_
  refine g_iloadN C (pc' := 17) d9_16 rfl rfl ?_
  refine g_iconst C (pc' := 18) (v := (1 : Int32)) d9_17 (by decide) rfl ?_
  refine g_iadd C (pc' := 19) d9_18 rfl rfl ?_
  rw [show ((0 : Int32) + (1 : Int32)) = (1 : Int32) from by decide]
  refine g_putF C (pc' := 22) (ty := .int) (wd hw 62 rfl) Via.refl d9_19 rfl f94 f88 (Or.inl (wd hw 63 rfl)) (wd hw 32 rfl) (by decide) rfl rfl ga rfl (fun h96 W97 => ?_)
  have f98 := f86.wr W97 ga
  have f99 := f87.wr W97 (Or.inl (List.mem_of_getElem? (i := 0) rfl))
  have f100 := f88.wr W97
  have f101 := f89.other W97 (O.ne V_DEF.lt ga)
  have f102 := f90.wr W97
  have f103 := f91.wr W97
  have f104 := f92.other W97 (Or.inr (slot_ne (Or.inl (wd hw 51 rfl)) (Or.inl (wd hw 63 rfl)) (by decide) (t := .int) (t' := .int) (by decide) (by decide)))
  have f105 := f93.other W97 (Or.inr (slot_ne (Or.inl (wd hw 54 rfl)) (Or.inl (wd hw 63 rfl)) (by decide) (t := (.array (.object "java/lang/Object"))) (t' := .int) (by decide) (by decide)))
  have f106 := f94.same W97
  have f107 := f95.other W97 (Ne.symm ne_a_g)
  exact g_return C d9_22 rfl (Nat.le_of_ble_eq_true rfl) (Nat.le_of_ble_eq_true rfl) (⟨rfl, f99, g, kG, sz_g, ga, ge_g, ne_a_g, q5, f100, f103, f104, f105, f106, f107⟩)
theorem d8_0 : decode jdk_38_method_25_code 0 = .ok (.aload_n 0, 1) := by decide +kernel
theorem d8_1 : decode jdk_38_method_25_code 1 = .ok (.dup, 1) := by decide +kernel
theorem d8_2 : decode jdk_38_method_25_code 2 = .ok (.getfield 63, 3) := by decide +kernel
theorem d8_5 : decode jdk_38_method_25_code 5 = .ok (.iconst 1, 1) := by decide +kernel
theorem d8_6 : decode jdk_38_method_25_code 6 = .ok (.iadd, 1) := by decide +kernel
theorem d8_7 : decode jdk_38_method_25_code 7 = .ok (.putfield 63, 3) := by decide +kernel
theorem d8_10 : decode jdk_38_method_25_code 10 = .ok (.aload_n 0, 1) := by decide +kernel
theorem d8_11 : decode jdk_38_method_25_code 11 = .ok (.aload_n 1, 1) := by decide +kernel
theorem d8_12 : decode jdk_38_method_25_code 12 = .ok (.aload_n 0, 1) := by decide +kernel
theorem d8_13 : decode jdk_38_method_25_code 13 = .ok (.getfield 9, 3) := by decide +kernel
theorem d8_16 : decode jdk_38_method_25_code 16 = .ok (.aload_n 0, 1) := by decide +kernel
theorem d8_17 : decode jdk_38_method_25_code 17 = .ok (.getfield 48, 3) := by decide +kernel
theorem d8_20 : decode jdk_38_method_25_code 20 = .ok (.invokevirtual 131, 3) := by decide +kernel
theorem pd_4 : parseMethodDescriptor "(Ljava/lang/Object;[Ljava/lang/Object;I)V" = some ⟨[(.object "java/lang/Object"), (.array (.object "java/lang/Object")), .int], none⟩ := by decide +kernel
theorem d8_23 : decode jdk_38_method_25_code 23 = .ok (.iconst 1, 1) := by decide +kernel
theorem d8_24 : decode jdk_38_method_25_code 24 = .ok (.ireturn, 1) := by decide +kernel
set_option maxRecDepth 65536 in
set_option maxHeartbeats 40000000 in
theorem add_0 (l : Launch) (Z : State) (a0 : Array Value) (hw : ∀ d ∈ tables_1, d.before a0 Z = true) (n0 : Nat) (h : Heap) (O : Old Z n0 h) (s_BOOL : Addr) (s_I16 : Addr) (s_I32 : Addr) (s_BYTE : Addr) (s_DOUBLE : Addr) (s_I64 : Addr) (s_MAP : Addr) (s_STRUCT : Addr) (s_LIST : Addr) (s_SET : Addr) (s_STRING : Addr) (s_DEF : Addr) (H : En Z s_BOOL s_I16 s_I32 s_BYTE s_DOUBLE s_I64 s_MAP s_STRUCT s_LIST s_SET s_STRING s_DEF) (a : Addr) (mc : Int32) (x : Addr) (Ex : Exa Z h x "com/example/strictwire/strictwire/I32Value") (P : AL0 Z n0 h a s_DEF mc) : Con l Z (⟨"java/util/ArrayList", "add", "(Ljava/lang/Object;)Z"⟩ : MethodName) jdk_38_method_25_code 2 (some .boolean) ({ frames := 4, cells := 1, slots := 10, locals := 56 } : Room) #[(.ref a), (.ref x)] h n0 (fun v h' => v = some (.int (1 : Int32)) ∧ Keep h h' [a] ∧ ∃ ed kE, h.size ≤ ed ∧ AL1 Z n0 h' a ed kE (mc + (1 : Int32)) (1 : Int32) [(.ref x), .null, .null, .null, .null, .null, .null, .null, .null, .null]) := by
  refine Con.mk (Ls := #[.val (.ref a), .val (.ref x)]) (plainFor_of_name pn_8) (fun m => by first | (simp [entryFrame, mkF, argsToLocals, Value.category]; done) | rfl) (fun w C => ?_)
  replace C : Cx w l Z "java/util/ArrayList" jdk_38_method_25_code 2 (some .boolean) "add" ({ frames := 4, cells := 1, slots := 10, locals := 56 } : Room) n0 := C
  obtain ⟨S_BOOL, E_BOOL, S_I16, E_I16, S_I32, E_I32, S_BYTE, E_BYTE, S_DOUBLE, E_DOUBLE, S_I64, E_I64, S_MAP, E_MAP, S_STRUCT, E_STRUCT, S_LIST, E_LIST, S_SET, E_SET, S_STRING, E_STRING, F_I32_ordinal, F_I64_ordinal, F_I16_ordinal, F_DOUBLE_ordinal, F_BYTE_ordinal, F_BOOL_ordinal, F_LIST_ordinal, F_SET_ordinal, F_STRUCT_ordinal, F_STRING_ordinal, F_MAP_ordinal, S_DEF, E_DEF, V_DEF⟩ := id H
  obtain ⟨kD, V_DEF⟩ := V_DEF
  obtain ⟨ga, E0, F1, F2, F3⟩ := P
  refine g_aloadN C (pc' := 1) d8_0 rfl rfl rfl ?_
  refine g_dup C (pc' := 2) d8_1 rfl rfl rfl ?_
  refine g_getF C (pc' := 5) (wd hw 60 rfl) (Via.of (wd hw 61 rfl)) d8_2 rfl F1 rfl ?_
  refine g_iconst C (pc' := 6) (v := (1 : Int32)) d8_5 (by decide) rfl ?_
  refine g_iadd C (pc' := 7) d8_6 rfl rfl ?_
  refine g_putF C (pc' := 10) (ty := .int) (wd hw 60 rfl) (Via.of (wd hw 61 rfl)) d8_7 rfl F1 E0 (Or.inl (wd hw 51 rfl)) (wd hw 32 rfl) (by decide) rfl rfl ga rfl (fun h108 W109 => ?_)
  have f110 := O.wr W109 ga
  have f111 := (Keep.refl h [a]).wr W109 (Or.inl (List.mem_of_getElem? (i := 0) rfl))
  have f112 := E0.wr W109
  have f113 := F1.same W109
  have f114 := F2.other W109 (Or.inr (slot_ne (Or.inl (wd hw 54 rfl)) (Or.inl (wd hw 51 rfl)) (by decide) (t := (.array (.object "java/lang/Object"))) (t' := .int) (by decide) (by decide)))
  have f115 := F3.other W109 (Or.inr (slot_ne (Or.inl (wd hw 63 rfl)) (Or.inl (wd hw 51 rfl)) (by decide) (t := .int) (t' := .int) (by decide) (by decide)))
  have f116 := (V_DEF.ext O.2).other W109 (O.ne V_DEF.lt ga)
  have f117 := Ex.wr W109
  refine g_aloadN C (pc' := 11) d8_10 rfl rfl rfl ?_
  refine g_aloadN C (pc' := 12) d8_11 rfl rfl rfl ?_
  refine g_aloadN C (pc' := 13) d8_12 rfl rfl rfl ?_
  refine g_getF C (pc' := 16) (wd hw 53 rfl) Via.refl d8_13 rfl f114 rfl ?_
  refine g_aloadN C (pc' := 17) d8_16 rfl rfl rfl ?_
  refine g_getF C (pc' := 20) (wd hw 62 rfl) Via.refl d8_17 rfl f115 rfl ?_
  refine g_private C (pc' := 23) (k' := 1) (n' := 10) (argsL := [(.ref x), (.ref s_DEF), (.int (0 : Int32))]) (rest := []) (wd hw 64 rfl) (wd hw 65 rfl) (wd hw 32 rfl) (wd hw 66 rfl) (wd hw 33 rfl) (wd hw 68 rfl) (by decide) d8_20 pd_4 rfl rfl rfl f112 (add3_0 l Z a0 hw n0 h108 f110 s_BOOL s_I16 s_I32 s_BYTE s_DOUBLE s_I64 s_MAP s_STRUCT s_LIST s_SET s_STRING s_DEF H a (mc + (1 : Int32)) x f117 ⟨ga, f112, f113, f114, f115⟩) (Nat.le_of_ble_eq_true rfl) (Nat.le_of_ble_eq_true rfl) (Nat.le_of_ble_eq_true rfl) (Nat.le_of_ble_eq_true rfl) rfl rfl rfl (fun v119 h118 q120 => ?_)
  obtain ⟨rfl, q1, ed, kE, q2, q3⟩ := q120
  have ne_a_ed : a ≠ ed := Nat.ne_of_lt (Nat.lt_of_lt_of_le f112.lt q2)
  have ne_s_DEF_ed : s_DEF ≠ ed := Nat.ne_of_lt (Nat.lt_of_lt_of_le f116.lt q2)
  have ne_x_ed : x ≠ ed := Nat.ne_of_lt (Nat.lt_of_lt_of_le f117.lt q2)
  have ge_ed : n0 ≤ ed := Nat.le_trans (f110.1 ▸ f110.2.1) q2
  have sz_ed : h.size ≤ ed := Nat.le_trans f111.1 q2
  have f121 := f110.keep q1 (allS ga all0)
  have f122 := f111.trans q1 (allS (Or.inl (List.mem_of_getElem? (i := 0) rfl)) all0)
  have f123 := f112.keep q1
  have f124 := f116.keep q1 (ninS (O.ne V_DEF.lt ga) nin0)
  have f125 := f117.keep q1
  show G w _ h118 1 10 23 #[.val (.ref a), .val (.ref x)] []
  refine g_iconst C (pc' := 24) (v := (1 : Int32)) d8_23 (by decide) rfl ?_
  exact g_zreturn C d8_24 rfl rfl (Nat.le_of_ble_eq_true rfl) (Nat.le_of_ble_eq_true rfl) (⟨rfl, f122, ed, kE, sz_ed, q3⟩)
set_option maxRecDepth 65536 in
set_option maxHeartbeats 40000000 in
theorem acolV_0 (l : Launch) (Z : State) (a0 : Array Value) (hw : ∀ d ∈ tables_1, d.before a0 Z = true) (n0 : Nat) (h : Heap) (O : Old Z n0 h) (s_BOOL : Addr) (s_I16 : Addr) (s_I32 : Addr) (s_BYTE : Addr) (s_DOUBLE : Addr) (s_I64 : Addr) (s_MAP : Addr) (s_STRUCT : Addr) (s_LIST : Addr) (s_SET : Addr) (s_STRING : Addr) (s_DEF : Addr) (H : En Z s_BOOL s_I16 s_I32 s_BYTE s_DOUBLE s_I64 s_MAP s_STRUCT s_LIST s_SET s_STRING s_DEF) (a : Addr) (E0 : Exa Z h a "com/example/strictwire/strictwire/ValueList") : Con l Z (⟨"java/util/AbstractCollection", "<init>", "()V"⟩ : MethodName) jdk_22_method_1_code 1 none ({ frames := 1, cells := 0, slots := 0, locals := 12 } : Room) #[(.ref a)] h n0 (fun v h' => v = none ∧ h' = h) := by
  refine Con.mk (Ls := #[.val (.ref a)]) (plainFor_of_name pn_6) (fun m => by first | (simp [entryFrame, mkF, argsToLocals, Value.category]; done) | rfl) (fun w C => ?_)
  replace C : Cx w l Z "java/util/AbstractCollection" jdk_22_method_1_code 1 none "<init>" ({ frames := 1, cells := 0, slots := 0, locals := 12 } : Room) n0 := C
  obtain ⟨S_BOOL, E_BOOL, S_I16, E_I16, S_I32, E_I32, S_BYTE, E_BYTE, S_DOUBLE, E_DOUBLE, S_I64, E_I64, S_MAP, E_MAP, S_STRUCT, E_STRUCT, S_LIST, E_LIST, S_SET, E_SET, S_STRING, E_STRING, F_I32_ordinal, F_I64_ordinal, F_I16_ordinal, F_DOUBLE_ordinal, F_BYTE_ordinal, F_BOOL_ordinal, F_LIST_ordinal, F_SET_ordinal, F_STRUCT_ordinal, F_STRING_ordinal, F_MAP_ordinal, S_DEF, E_DEF, V_DEF⟩ := id H
  obtain ⟨kD, V_DEF⟩ := V_DEF
  refine g_aloadN C (pc' := 1) d7_0 rfl rfl rfl ?_
  refine g_initO C (pc' := 4) (wd hw 49 rfl) (wd hw 26 rfl) (wd hw 27 rfl) d7_1 rfl rfl (Nat.le_of_ble_eq_true rfl) (Nat.le_of_ble_eq_true rfl) rfl ?_
  exact g_return C d7_4 rfl (Nat.le_of_ble_eq_true rfl) (Nat.le_of_ble_eq_true rfl) (⟨rfl, rfl⟩)
set_option maxRecDepth 65536 in
set_option maxHeartbeats 40000000 in
theorem ablV (l : Launch) (Z : State) (a0 : Array Value) (hw : ∀ d ∈ tables_1, d.before a0 Z = true) (n0 : Nat) (h : Heap) (O : Old Z n0 h) (s_BOOL : Addr) (s_I16 : Addr) (s_I32 : Addr) (s_BYTE : Addr) (s_DOUBLE : Addr) (s_I64 : Addr) (s_MAP : Addr) (s_STRUCT : Addr) (s_LIST : Addr) (s_SET : Addr) (s_STRING : Addr) (s_DEF : Addr) (H : En Z s_BOOL s_I16 s_I32 s_BYTE s_DOUBLE s_I64 s_MAP s_STRUCT s_LIST s_SET s_STRING s_DEF) (a : Addr) (ga : n0 ≤ a) (E0 : Exa Z h a "com/example/strictwire/strictwire/ValueList") (F1 : Fld Z h a "java/util/AbstractList" "modCount" "I" (.int (0 : Int32))) : Con l Z (⟨"java/util/AbstractList", "<init>", "()V"⟩ : MethodName) jdk_39_method_1_code 1 none ({ frames := 2, cells := 0, slots := 0, locals := 24 } : Room) #[(.ref a)] h n0 (fun v h' => v = none ∧ Keep h h' [a] ∧ Exa Z h' a "com/example/strictwire/strictwire/ValueList" ∧ Fld Z h' a "java/util/AbstractList" "modCount" "I" (.int (0 : Int32)) ∧ (∀ {C f d : String} {v : Value}, Laid Z a0 "com/example/strictwire/strictwire/ValueList" C f d → (f ≠ "modCount") → (∃ t, parseFieldDescriptor d = some t) → Fld Z h a C f d v → Fld Z h' a C f d v)) := by
  refine Con.mk (Ls := #[.val (.ref a)]) (plainFor_of_name pn_7) (fun m => by first | (simp [entryFrame, mkF, argsToLocals, Value.category]; done) | rfl) (fun w C => ?_)
  replace C : Cx w l Z "java/util/AbstractList" jdk_39_method_1_code 1 none "<init>" ({ frames := 2, cells := 0, slots := 0, locals := 24 } : Room) n0 := C
  obtain ⟨S_BOOL, E_BOOL, S_I16, E_I16, S_I32, E_I32, S_BYTE, E_BYTE, S_DOUBLE, E_DOUBLE, S_I64, E_I64, S_MAP, E_MAP, S_STRUCT, E_STRUCT, S_LIST, E_LIST, S_SET, E_SET, S_STRING, E_STRING, F_I32_ordinal, F_I64_ordinal, F_I16_ordinal, F_DOUBLE_ordinal, F_BYTE_ordinal, F_BOOL_ordinal, F_LIST_ordinal, F_SET_ordinal, F_STRUCT_ordinal, F_STRING_ordinal, F_MAP_ordinal, S_DEF, E_DEF, V_DEF⟩ := id H
  obtain ⟨kD, V_DEF⟩ := V_DEF
  refine g_aloadN C (pc' := 1) d6_0 rfl rfl rfl ?_
  refine g_special C (pc' := 4) (k' := 0) (n' := 0) (argsL := []) (rest := []) (wd hw 43 rfl) (wd hw 44 rfl) (wd hw 47 rfl) (wd hw 48 rfl) (by decide) rfl d6_1 pd_2 rfl rfl rfl (acolV_0 l Z a0 hw n0 h O s_BOOL s_I16 s_I32 s_BYTE s_DOUBLE s_I64 s_MAP s_STRUCT s_LIST s_SET s_STRING s_DEF H a E0) (Nat.le_of_ble_eq_true rfl) (Nat.le_of_ble_eq_true rfl) (Nat.le_of_ble_eq_true rfl) (Nat.le_of_ble_eq_true rfl) rfl rfl rfl (fun v127 h126 q128 => ?_)
  obtain ⟨rfl, eh126⟩ := q128
  subst h126
  show G w _ h 0 0 4 #[.val (.ref a)] []
  refine g_aloadN C (pc' := 5) d6_4 rfl rfl rfl ?_
  refine g_iconst C (pc' := 6) (v := (0 : Int32)) d6_5 (by decide) rfl ?_
  refine g_putF C (pc' := 9) (ty := .int) (wd hw 50 rfl) Via.refl d6_6 rfl F1 E0 (Or.inl (wd hw 110 rfl)) (wd hw 104 rfl) (by decide) rfl rfl ga rfl (fun h129 W130 => ?_)
  have f131 := O.wr W130 ga
  have f132 := (Keep.refl h [a]).wr W130 (Or.inl (List.mem_of_getElem? (i := 0) rfl))
  have f133 := E0.wr W130
  have f134 := F1.same W130
  exact g_return C d6_9 rfl (Nat.le_of_ble_eq_true rfl) (Nat.le_of_ble_eq_true rfl) (⟨rfl, f132, f133, f134, fun L q ⟨t, ht⟩ F => F.other W130 (Or.inr (slot_ne L (Or.inl (wd hw 110 rfl)) q ht (t' := .int) (by decide)))⟩)
theorem d15_0 : decode prog_38_method_1_code 0 = .ok (.aload_n 0, 1) := by decide +kernel
theorem d15_1 : decode prog_38_method_1_code 1 = .ok (.invokespecial 1, 3) := by decide +kernel
theorem d15_4 : decode prog_38_method_1_code 4 = .ok (.aload_n 0, 1) := by decide +kernel
theorem d15_5 : decode prog_38_method_1_code 5 = .ok (.aload_n 1, 1) := by decide +kernel
theorem d15_6 : decode prog_38_method_1_code 6 = .ok (.putfield 7, 3) := by decide +kernel
theorem d15_9 : decode prog_38_method_1_code 9 = .ok (.aload_n 0, 1) := by decide +kernel
theorem d15_10 : decode prog_38_method_1_code 10 = .ok (.iload_n 2, 1) := by decide +kernel
theorem d15_11 : decode prog_38_method_1_code 11 = .ok (.putfield 13, 3) := by decide +kernel
theorem d15_14 : decode prog_38_method_1_code 14 = .ok (.aload_n 0, 1) := by decide +kernel
theorem d15_15 : decode prog_38_method_1_code 15 = .ok (.aload_n 3, 1) := by decide +kernel
theorem d15_16 : decode prog_38_method_1_code 16 = .ok (.putfield 17, 3) := by decide +kernel
theorem d15_19 : decode prog_38_method_1_code 19 = .ok (.return_, 1) := by decide +kernel
theorem pn_1 : plainName "com/example/strictwire/strictwire/ValueList" = true := by first | (simp [plainName, overriddenIn]; done) | decide +kernel
set_option maxRecDepth 65536 in
set_option maxHeartbeats 40000000 in
theorem vlI (l : Launch) (Z : State) (a0 : Array Value) (hw : ∀ d ∈ tables_1, d.before a0 Z = true) (n0 : Nat) (h : Heap) (O : Old Z n0 h) (s_BOOL : Addr) (s_I16 : Addr) (s_I32 : Addr) (s_BYTE : Addr) (s_DOUBLE : Addr) (s_I64 : Addr) (s_MAP : Addr) (s_STRUCT : Addr) (s_LIST : Addr) (s_SET : Addr) (s_STRING : Addr) (s_DEF : Addr) (H : En Z s_BOOL s_I16 s_I32 s_BYTE s_DOUBLE s_I64 s_MAP s_STRUCT s_LIST s_SET s_STRING s_DEF) (a ar ty : Addr) (ga : n0 ≤ a) (E0 : Exa Z h a "com/example/strictwire/strictwire/ValueList") (F1 : Fld Z h a "java/util/AbstractList" "modCount" "I" (.int (0 : Int32))) (F_elements : Fld Z h a "com/example/strictwire/strictwire/ValueList" "elements" "[Ljava/lang/Object;" .null) (F_distinctIds : Fld Z h a "com/example/strictwire/strictwire/ValueList" "distinctIds" "Z" (.int (0 : Int32))) (F_elementType : Fld Z h a "com/example/strictwire/strictwire/ValueList" "elementType" "Lcom/example/strictwire/strictwire/WireType;" .null) : Con l Z (⟨"com/example/strictwire/strictwire/ValueList", "<init>", "([Ljava/lang/Object;ZLcom/example/strictwire/strictwire/WireType;)V"⟩ : MethodName) prog_38_method_1_code 4 none ({ frames := 3, cells := 0, slots := 0, locals := 36 } : Room) #[(.ref a), (.ref ar), (.int (0 : Int32)), (.ref ty)] h n0 (fun r h' => r = none ∧ Keep h h' [a] ∧ Exa Z h' a "com/example/strictwire/strictwire/ValueList" ∧ Fld Z h' a "com/example/strictwire/strictwire/ValueList" "elementType" "Lcom/example/strictwire/strictwire/WireType;" (.ref ty)) := by
  refine Con.mk (Ls := #[.val (.ref a), .val (.ref ar), .val (.int (0 : Int32)), .val (.ref ty)]) (plainFor_of_name pn_1) (fun m => by first | (simp [entryFrame, mkF, argsToLocals, Value.category]; done) | rfl) (fun w C => ?_)
  replace C : Cx w l Z "com/example/strictwire/strictwire/ValueList" prog_38_method_1_code 4 none "<init>" ({ frames := 3, cells := 0, slots := 0, locals := 36 } : Room) n0 := C
  obtain ⟨S_BOOL, E_BOOL, S_I16, E_I16, S_I32, E_I32, S_BYTE, E_BYTE, S_DOUBLE, E_DOUBLE, S_I64, E_I64, S_MAP, E_MAP, S_STRUCT, E_STRUCT, S_LIST, E_LIST, S_SET, E_SET, S_STRING, E_STRING, F_I32_ordinal, F_I64_ordinal, F_I16_ordinal, F_DOUBLE_ordinal, F_BYTE_ordinal, F_BOOL_ordinal, F_LIST_ordinal, F_SET_ordinal, F_STRUCT_ordinal, F_STRING_ordinal, F_MAP_ordinal, S_DEF, E_DEF, V_DEF⟩ := id H
  obtain ⟨kD, V_DEF⟩ := V_DEF
  refine g_aloadN C (pc' := 1) d15_0 rfl rfl rfl ?_
  refine g_special C (pc' := 4) (k' := 0) (n' := 0) (argsL := []) (rest := []) (wd hw 108 rfl) (wd hw 38 rfl) (wd hw 41 rfl) (wd hw 42 rfl) (by decide) rfl d15_1 pd_2 rfl rfl rfl (ablV l Z a0 hw n0 h O s_BOOL s_I16 s_I32 s_BYTE s_DOUBLE s_I64 s_MAP s_STRUCT s_LIST s_SET s_STRING s_DEF H a ga E0 F1) (Nat.le_of_ble_eq_true rfl) (Nat.le_of_ble_eq_true rfl) (Nat.le_of_ble_eq_true rfl) (Nat.le_of_ble_eq_true rfl) rfl rfl rfl (fun v140 h139 q141 => ?_)
  obtain ⟨rfl, K135, E136, F137, T138⟩ := q141
  have f142 := O.keep K135 (allS ga all0)
  have f143 := (Keep.refl h [a]).trans K135 (allS (Or.inl (List.mem_of_getElem? (i := 0) rfl)) all0)
  have f144 := E0.keep K135
  have f145 := T138 (Or.inr (wd hw 112 rfl)) (by decide) ⟨_, (by decide : parseFieldDescriptor "[Ljava/lang/Object;" = some (.array (.object "java/lang/Object")))⟩ F_elements
  have f146 := T138 (Or.inr (wd hw 114 rfl)) (by decide) ⟨_, (by decide : parseFieldDescriptor "Z" = some .boolean)⟩ F_distinctIds
  have f147 := T138 (Or.inr (wd hw 116 rfl)) (by decide) ⟨_, (by decide : parseFieldDescriptor "Lcom/example/strictwire/strictwire/WireType;" = some (.object "com/example/strictwire/strictwire/WireType"))⟩ F_elementType
  show G w _ h139 0 0 4 #[.val (.ref a), .val (.ref ar), .val (.int (0 : Int32)), .val (.ref ty)] []
  refine g_aloadN C (pc' := 5) d15_4 rfl rfl rfl ?_
  refine g_aloadN C (pc' := 6) d15_5 rfl rfl rfl ?_
  refine g_putF C (pc' := 9) (ty := (.array (.object "java/lang/Object"))) (wd hw 111 rfl) Via.refl d15_6 rfl f145 f144 (Or.inr ⟨(wd hw 112 rfl), rfl, rfl⟩) (wd hw 104 rfl) (by decide) rfl rfl ga rfl (fun h148 W149 => ?_)
  have f150 := f142.wr W149 ga
  have f151 := f143.wr W149 (Or.inl (List.mem_of_getElem? (i := 0) rfl))
  have f152 := f144.wr W149
  have f153 := F137.other W149 (Or.inr (slot_ne (Or.inl (wd hw 110 rfl)) (Or.inr (wd hw 112 rfl)) (by decide) (t := .int) (t' := (.array (.object "java/lang/Object"))) (by decide) (by decide)))
  have f154 := f145.same W149
  have f155 := f146.other W149 (Or.inr (slot_ne (Or.inr (wd hw 114 rfl)) (Or.inr (wd hw 112 rfl)) (by decide) (t := .boolean) (t' := (.array (.object "java/lang/Object"))) (by decide) (by decide)))
  have f156 := f147.other W149 (Or.inr (slot_ne (Or.inr (wd hw 116 rfl)) (Or.inr (wd hw 112 rfl)) (by decide) (t := (.object "com/example/strictwire/strictwire/WireType")) (t' := (.array (.object "java/lang/Object"))) (by decide) (by decide)))
  refine g_aloadN C (pc' := 10) d15_9 rfl rfl rfl ?_
  refine g_iloadN C (pc' := 11) d15_10 rfl rfl ?_
  refine g_putFN C (pc' := 14) (v' := (.int (0 : Int32))) (ty := .boolean) (wd hw 113 rfl) Via.refl d15_11 rfl f155 f152 (Or.inr ⟨(wd hw 114 rfl), rfl, rfl⟩) (wd hw 104 rfl) (by decide) rfl rfl ga rfl (fun h157 W158 => ?_)
  have f159 := f150.wr W158 ga
  have f160 := f151.wr W158 (Or.inl (List.mem_of_getElem? (i := 0) rfl))
  have f161 := f152.wr W158
  have f162 := f153.other W158 (Or.inr (slot_ne (Or.inl (wd hw 110 rfl)) (Or.inr (wd hw 114 rfl)) (by decide) (t := .int) (t' := .boolean) (by decide) (by decide)))
  have f163 := f154.other W158 (Or.inr (slot_ne (Or.inr (wd hw 112 rfl)) (Or.inr (wd hw 114 rfl)) (by decide) (t := (.array (.object "java/lang/Object"))) (t' := .boolean) (by decide) (by decide)))
  have f164 := f155.same W158
  have f165 := f156.other W158 (Or.inr (slot_ne (Or.inr (wd hw 116 rfl)) (Or.inr (wd hw 114 rfl)) (by decide) (t := (.object "com/example/strictwire/strictwire/WireType")) (t' := .boolean) (by decide) (by decide)))
  refine g_aloadN C (pc' := 15) d15_14 rfl rfl rfl ?_
  refine g_aloadN C (pc' := 16) d15_15 rfl rfl rfl ?_
  refine g_putF C (pc' := 19) (ty := (.object "com/example/strictwire/strictwire/WireType")) (wd hw 115 rfl) Via.refl d15_16 rfl f165 f161 (Or.inr ⟨(wd hw 116 rfl), rfl, rfl⟩) (wd hw 104 rfl) (by decide) rfl rfl ga rfl (fun h166 W167 => ?_)
  have f168 := f159.wr W167 ga
  have f169 := f160.wr W167 (Or.inl (List.mem_of_getElem? (i := 0) rfl))
  have f170 := f161.wr W167
  have f171 := f162.other W167 (Or.inr (slot_ne (Or.inl (wd hw 110 rfl)) (Or.inr (wd hw 116 rfl)) (by decide) (t := .int) (t' := (.object "com/example/strictwire/strictwire/WireType")) (by decide) (by decide)))
  have f172 := f163.other W167 (Or.inr (slot_ne (Or.inr (wd hw 112 rfl)) (Or.inr (wd hw 116 rfl)) (by decide) (t := (.array (.object "java/lang/Object"))) (t' := (.object "com/example/strictwire/strictwire/WireType")) (by decide) (by decide)))
  have f173 := f164.other W167 (Or.inr (slot_ne (Or.inr (wd hw 114 rfl)) (Or.inr (wd hw 116 rfl)) (by decide) (t := .boolean) (t' := (.object "com/example/strictwire/strictwire/WireType")) (by decide) (by decide)))
  have f174 := f165.same W167
  exact g_return C d15_19 rfl (Nat.le_of_ble_eq_true rfl) (Nat.le_of_ble_eq_true rfl) (⟨rfl, f169, f170, f174⟩)
theorem d14_0 : decode prog_38_method_3_code 0 = .ok (.new 8, 3) := by decide +kernel
theorem d14_3 : decode prog_38_method_3_code 3 = .ok (.dup, 1) := by decide +kernel
theorem d14_4 : decode prog_38_method_3_code 4 = .ok (.aload_n 0, 1) := by decide +kernel
theorem d14_5 : decode prog_38_method_3_code 5 = .ok (.iconst 0, 1) := by decide +kernel
theorem d14_6 : decode prog_38_method_3_code 6 = .ok (.aload_n 1, 1) := by decide +kernel
theorem d14_7 : decode prog_38_method_3_code 7 = .ok (.invokespecial 21, 3) := by decide +kernel
theorem pd_10 : parseMethodDescriptor "([Ljava/lang/Object;ZLcom/example/strictwire/strictwire/WireType;)V" = some ⟨[(.array (.object "java/lang/Object")), .boolean, (.object "com/example/strictwire/strictwire/WireType")], none⟩ := by decide +kernel
theorem d14_10 : decode prog_38_method_3_code 10 = .ok (.areturn, 1) := by decide +kernel
set_option maxRecDepth 65536 in
set_option maxHeartbeats 40000000 in
theorem ofE (l : Launch) (Z : State) (a0 : Array Value) (hw : ∀ d ∈ tables_1, d.before a0 Z = true) (n0 : Nat) (h : Heap) (O : Old Z n0 h) (s_BOOL : Addr) (s_I16 : Addr) (s_I32 : Addr) (s_BYTE : Addr) (s_DOUBLE : Addr) (s_I64 : Addr) (s_MAP : Addr) (s_STRUCT : Addr) (s_LIST : Addr) (s_SET : Addr) (s_STRING : Addr) (s_DEF : Addr) (H : En Z s_BOOL s_I16 s_I32 s_BYTE s_DOUBLE s_I64 s_MAP s_STRUCT s_LIST s_SET s_STRING s_DEF) (ar ty : Addr) : Con l Z (⟨"com/example/strictwire/strictwire/ValueList", "ofElements", "([Lcom/example/strictwire/strictwire/Value;Lcom/example/strictwire/strictwire/WireType;)Lcom/example/strictwire/strictwire/ValueList;"⟩ : MethodName) prog_38_method_3_code 2 (some (.object "com/example/strictwire/strictwire/ValueList")) ({ frames := 4, cells := 1, slots := 4, locals := 52 } : Room) #[(.ref ar), (.ref ty)] h n0 (fun v h' => ∃ b, v = some (.ref b) ∧ h.size ≤ b ∧ Keep h h' [] ∧ Exa Z h' b "com/example/strictwire/strictwire/ValueList" ∧ Fld Z h' b "com/example/strictwire/strictwire/ValueList" "elementType" "Lcom/example/strictwire/strictwire/WireType;" (.ref ty)) := by
  refine Con.mk (Ls := #[.val (.ref ar), .val (.ref ty)]) (plainFor_of_name pn_1) (fun m => by first | (simp [entryFrame, mkF, argsToLocals, Value.category]; done) | rfl) (fun w C => ?_)
  replace C : Cx w l Z "com/example/strictwire/strictwire/ValueList" prog_38_method_3_code 2 (some (.object "com/example/strictwire/strictwire/ValueList")) "ofElements" ({ frames := 4, cells := 1, slots := 4, locals := 52 } : Room) n0 := C
  obtain ⟨S_BOOL, E_BOOL, S_I16, E_I16, S_I32, E_I32, S_BYTE, E_BYTE, S_DOUBLE, E_DOUBLE, S_I64, E_I64, S_MAP, E_MAP, S_STRUCT, E_STRUCT, S_LIST, E_LIST, S_SET, E_SET, S_STRING, E_STRING, F_I32_ordinal, F_I64_ordinal, F_I16_ordinal, F_DOUBLE_ordinal, F_BYTE_ordinal, F_BOOL_ordinal, F_LIST_ordinal, F_SET_ordinal, F_STRUCT_ordinal, F_STRING_ordinal, F_MAP_ordinal, S_DEF, E_DEF, V_DEF⟩ := id H
  obtain ⟨kD, V_DEF⟩ := V_DEF
  refine g_new C (pc' := 3) (k' := 1) (n' := 4) (wd hw 90 rfl) (wd hw 104 rfl) (wd hw 88 rfl) d14_0 (by decide) (by decide) rfl rfl rfl (fun h175 b176 ex177 E178 A179 D180 => ?_)
  have ge_b176 : n0 ≤ b176 := by rw [ex177]; exact O.1 ▸ O.2.1
  have sz_b176 : h.size ≤ b176 := by rw [ex177]; exact (Keep.refl h []).1
  have f181 := O.ext E178
  have f182 := (Keep.refl h []).ext E178
  have F_modCount_b176 : Fld Z h175 b176 "java/util/AbstractList" "modCount" "I" (.int (0 : Int32)) := D180 (Or.inl (wd hw 110 rfl)) (ty := .int) (by decide)
  have F_elements_b176 : Fld Z h175 b176 "com/example/strictwire/strictwire/ValueList" "elements" "[Ljava/lang/Object;" .null := D180 (Or.inr (wd hw 112 rfl)) (ty := (.array (.object "java/lang/Object"))) (by decide)
  have F_distinctIds_b176 : Fld Z h175 b176 "com/example/strictwire/strictwire/ValueList" "distinctIds" "Z" (.int (0 : Int32)) := D180 (Or.inr (wd hw 114 rfl)) (ty := .boolean) (by decide)
  have F_elementType_b176 : Fld Z h175 b176 "com/example/strictwire/strictwire/ValueList" "elementType" "Lcom/example/strictwire/strictwire/WireType;" .null := D180 (Or.inr (wd hw 116 rfl)) (ty := (.object "com/example/strictwire/strictwire/WireType")) (by decide)
  refine g_dup C (pc' := 4) d14_3 rfl rfl rfl ?_
  refine g_aloadN C (pc' := 5) d14_4 rfl rfl rfl ?_
  refine g_iconst C (pc' := 6) (v := (0 : Int32)) d14_5 (by decide) rfl ?_
  refine g_aloadN C (pc' := 7) d14_6 rfl rfl rfl ?_
  refine g_special C (pc' := 10) (k' := 1) (n' := 4) (argsL := [(.ref ar), (.int (0 : Int32)), (.ref ty)]) (rest := [(.ref b176)]) (wd hw 105 rfl) (wd hw 106 rfl) (wd hw 88 rfl) (wd hw 107 rfl) (by decide) rfl d14_7 pd_10 rfl rfl rfl (vlI l Z a0 hw n0 h175 f181 s_BOOL s_I16 s_I32 s_BYTE s_DOUBLE s_I64 s_MAP s_STRUCT s_LIST s_SET s_STRING s_DEF H b176 ar ty ge_b176 A179 F_modCount_b176 F_elements_b176 F_distinctIds_b176 F_elementType_b176) (Nat.le_of_ble_eq_true rfl) (Nat.le_of_ble_eq_true rfl) (Nat.le_of_ble_eq_true rfl) (Nat.le_of_ble_eq_true rfl) rfl rfl rfl (fun v184 h183 q185 => ?_)
  obtain ⟨rfl, k1, k2, k3⟩ := q185
  have f186 := f181.keep k1 (allS ge_b176 all0)
  have f187 := f182.trans k1 (allS (Or.inr sz_b176) all0)
  have f188 := A179.keep k1
  show G w _ h183 1 4 10 #[.val (.ref ar), .val (.ref ty)] [(.ref b176)]
  exact g_areturn C d14_10 rfl rfl rfl rfl (Nat.le_of_ble_eq_true rfl) (Nat.le_of_ble_eq_true rfl) (⟨b176, rfl, sz_b176, f187, k2, k3⟩)
theorem d13_0 : decode prog_38_method_7_code 0 = .ok (.aload_n 0, 1) := by decide +kernel
theorem d13_1 : decode prog_38_method_7_code 1 = .ok (.instanceof 8, 3) := by decide +kernel
theorem d13_4 : decode prog_38_method_7_code 4 = .ok (.ifCond .eq 20, 3) := by decide +kernel
theorem d13_7 : decode prog_38_method_7_code 7 = .ok (.aload_n 0, 1) := by decide +kernel
theorem d13_8 : decode prog_38_method_7_code 8 = .ok (.checkcast 8, 3) := by decide +kernel
theorem d13_11 : decode prog_38_method_7_code 11 = .ok (.astore_n 2, 1) := by decide +kernel
theorem d13_12 : decode prog_38_method_7_code 12 = .ok (.aload_n 2, 1) := by decide +kernel
theorem d13_13 : decode prog_38_method_7_code 13 = .ok (.getfield 17, 3) := by decide +kernel
theorem d13_16 : decode prog_38_method_7_code 16 = .ok (.aload_n 1, 1) := by decide +kernel
theorem d13_17 : decode prog_38_method_7_code 17 = .ok (.if_acmp .ne 7, 3) := by decide +kernel
theorem d13_20 : decode prog_38_method_7_code 20 = .ok (.iconst 1, 1) := by decide +kernel
theorem d13_21 : decode prog_38_method_7_code 21 = .ok (.goto 4, 3) := by decide +kernel
theorem d13_25 : decode prog_38_method_7_code 25 = .ok (.ireturn, 1) := by decide +kernel
set_option maxRecDepth 65536 in
set_option maxHeartbeats 40000000 in
theorem ho_1 (l : Launch) (Z : State) (a0 : Array Value) (hw : ∀ d ∈ tables_1, d.before a0 Z = true) (n0 : Nat) (h : Heap) (O : Old Z n0 h) (s_BOOL : Addr) (s_I16 : Addr) (s_I32 : Addr) (s_BYTE : Addr) (s_DOUBLE : Addr) (s_I64 : Addr) (s_MAP : Addr) (s_STRUCT : Addr) (s_LIST : Addr) (s_SET : Addr) (s_STRING : Addr) (s_DEF : Addr) (H : En Z s_BOOL s_I16 s_I32 s_BYTE s_DOUBLE s_I64 s_MAP s_STRUCT s_LIST s_SET s_STRING s_DEF) (b q ty : Addr) (hq : ty = q) (E0 : Exa Z h b "com/example/strictwire/strictwire/ValueList") (F0 : Fld Z h b "com/example/strictwire/strictwire/ValueList" "elementType" "Lcom/example/strictwire/strictwire/WireType;" (.ref ty)) : Con l Z (⟨"com/example/strictwire/strictwire/ValueList", "holdsOnly", "(Ljava/util/List;Lcom/example/strictwire/strictwire/WireType;)Z"⟩ : MethodName) prog_38_method_7_code 3 (some .boolean) ({ frames := 0, cells := 0, slots := 0, locals := 0 } : Room) #[(.ref b), (.ref q)] h n0 (fun v h' => v = some (.int (1 : Int32)) ∧ h' = h) := by
  refine Con.mk (Ls := #[.val (.ref b), .val (.ref q), .unset]) (plainFor_of_name pn_1) (fun m => by first | (simp [entryFrame, mkF, argsToLocals, Value.category]; done) | rfl) (fun w C => ?_)
  replace C : Cx w l Z "com/example/strictwire/strictwire/ValueList" prog_38_method_7_code 3 (some .boolean) "holdsOnly" ({ frames := 0, cells := 0, slots := 0, locals := 0 } : Room) n0 := C
  obtain ⟨S_BOOL, E_BOOL, S_I16, E_I16, S_I32, E_I32, S_BYTE, E_BYTE, S_DOUBLE, E_DOUBLE, S_I64, E_I64, S_MAP, E_MAP, S_STRUCT, E_STRUCT, S_LIST, E_LIST, S_SET, E_SET, S_STRING, E_STRING, F_I32_ordinal, F_I64_ordinal, F_I16_ordinal, F_DOUBLE_ordinal, F_BYTE_ordinal, F_BOOL_ordinal, F_LIST_ordinal, F_SET_ordinal, F_STRUCT_ordinal, F_STRING_ordinal, F_MAP_ordinal, S_DEF, E_DEF, V_DEF⟩ := id H
  obtain ⟨kD, V_DEF⟩ := V_DEF
  refine g_aloadN C (pc' := 1) d13_0 rfl rfl rfl ?_
  refine g_instY C (pc' := 4) (wd hw 90 rfl) d13_1 rfl (Ins.self E0) rfl ?_
  refine g_ifN C (pc' := 7) d13_4 rfl (by decide) rfl ?_
  refine g_aloadN C (pc' := 8) d13_7 rfl rfl rfl ?_
  refine g_cast C (pc' := 11) (wd hw 90 rfl) d13_8 rfl (Ins.self E0) rfl ?_
  refine g_astoreN C (pc' := 12) (Ls' := #[.val (.ref b), .val (.ref q), .val (.ref b)]) d13_11 rfl rfl rfl rfl ?_
  refine g_aloadN C (pc' := 13) d13_12 rfl rfl rfl ?_
  refine g_getF C (pc' := 16) (wd hw 115 rfl) Via.refl d13_13 rfl F0 rfl ?_
  refine g_aloadN C (pc' := 17) d13_16 rfl rfl rfl ?_
  refine g_acmp C (pc' := 20) (same := true) d13_17 rfl rfl rfl (decide_eq_true (congrArg Value.ref hq)) (by decide) (by decide) ?_
  refine g_iconst C (pc' := 21) (v := (1 : Int32)) d13_20 (by decide) rfl ?_
  refine g_goto C (pc' := 25) d13_21 (by decide) rfl ?_
  exact g_zreturn C d13_25 rfl rfl (Nat.le_of_ble_eq_true rfl) (Nat.le_of_ble_eq_true rfl) (⟨rfl, rfl⟩)
theorem d13_24 : decode prog_38_method_7_code 24 = .ok (.iconst 0, 1) := by decide +kernel
set_option maxRecDepth 65536 in
set_option maxHeartbeats 40000000 in
theorem ho_0 (l : Launch) (Z : State) (a0 : Array Value) (hw : ∀ d ∈ tables_1, d.before a0 Z = true) (n0 : Nat) (h : Heap) (O : Old Z n0 h) (s_BOOL : Addr) (s_I16 : Addr) (s_I32 : Addr) (s_BYTE : Addr) (s_DOUBLE : Addr) (s_I64 : Addr) (s_MAP : Addr) (s_STRUCT : Addr) (s_LIST : Addr) (s_SET : Addr) (s_STRING : Addr) (s_DEF : Addr) (H : En Z s_BOOL s_I16 s_I32 s_BYTE s_DOUBLE s_I64 s_MAP s_STRUCT s_LIST s_SET s_STRING s_DEF) (b q ty : Addr) (hq : ¬ ty = q) (E0 : Exa Z h b "com/example/strictwire/strictwire/ValueList") (F0 : Fld Z h b "com/example/strictwire/strictwire/ValueList" "elementType" "Lcom/example/strictwire/strictwire/WireType;" (.ref ty)) : Con l Z (⟨"com/example/strictwire/strictwire/ValueList", "holdsOnly", "(Ljava/util/List;Lcom/example/strictwire/strictwire/WireType;)Z"⟩ : MethodName) prog_38_method_7_code 3 (some .boolean) ({ frames := 0, cells := 0, slots := 0, locals := 0 } : Room) #[(.ref b), (.ref q)] h n0 (fun v h' => v = some (.int (0 : Int32)) ∧ h' = h) := by
  refine Con.mk (Ls := #[.val (.ref b), .val (.ref q), .unset]) (plainFor_of_name pn_1) (fun m => by first | (simp [entryFrame, mkF, argsToLocals, Value.category]; done) | rfl) (fun w C => ?_)
  replace C : Cx w l Z "com/example/strictwire/strictwire/ValueList" prog_38_method_7_code 3 (some .boolean) "holdsOnly" ({ frames := 0, cells := 0, slots := 0, locals := 0 } : Room) n0 := C
  obtain ⟨S_BOOL, E_BOOL, S_I16, E_I16, S_I32, E_I32, S_BYTE, E_BYTE, S_DOUBLE, E_DOUBLE, S_I64, E_I64, S_MAP, E_MAP, S_STRUCT, E_STRUCT, S_LIST, E_LIST, S_SET, E_SET, S_STRING, E_STRING, F_I32_ordinal, F_I64_ordinal, F_I16_ordinal, F_DOUBLE_ordinal, F_BYTE_ordinal, F_BOOL_ordinal, F_LIST_ordinal, F_SET_ordinal, F_STRUCT_ordinal, F_STRING_ordinal, F_MAP_ordinal, S_DEF, E_DEF, V_DEF⟩ := id H
  obtain ⟨kD, V_DEF⟩ := V_DEF
  refine g_aloadN C (pc' := 1) d13_0 rfl rfl rfl ?_
  refine g_instY C (pc' := 4) (wd hw 90 rfl) d13_1 rfl (Ins.self E0) rfl ?_
  refine g_ifN C (pc' := 7) d13_4 rfl (by decide) rfl ?_
  refine g_aloadN C (pc' := 8) d13_7 rfl rfl rfl ?_
  refine g_cast C (pc' := 11) (wd hw 90 rfl) d13_8 rfl (Ins.self E0) rfl ?_
  refine g_astoreN C (pc' := 12) (Ls' := #[.val (.ref b), .val (.ref q), .val (.ref b)]) d13_11 rfl rfl rfl rfl ?_
  refine g_aloadN C (pc' := 13) d13_12 rfl rfl rfl ?_
  refine g_getF C (pc' := 16) (wd hw 115 rfl) Via.refl d13_13 rfl F0 rfl ?_
  refine g_aloadN C (pc' := 17) d13_16 rfl rfl rfl ?_
  refine g_acmp C (pc' := 24) (same := false) d13_17 rfl rfl rfl (decide_eq_false fun e => hq (Value.ref.inj e)) (by decide) (by decide) ?_
  refine g_iconst C (pc' := 25) (v := (0 : Int32)) d13_24 (by decide) rfl ?_
  exact g_zreturn C d13_25 rfl rfl (Nat.le_of_ble_eq_true rfl) (Nat.le_of_ble_eq_true rfl) (⟨rfl, rfl⟩)
set_option maxRecDepth 65536 in
set_option maxHeartbeats 40000000 in
theorem ho_al (l : Launch) (Z : State) (a0 : Array Value) (hw : ∀ d ∈ tables_1, d.before a0 Z = true) (n0 : Nat) (h : Heap) (O : Old Z n0 h) (s_BOOL : Addr) (s_I16 : Addr) (s_I32 : Addr) (s_BYTE : Addr) (s_DOUBLE : Addr) (s_I64 : Addr) (s_MAP : Addr) (s_STRUCT : Addr) (s_LIST : Addr) (s_SET : Addr) (s_STRING : Addr) (s_DEF : Addr) (H : En Z s_BOOL s_I16 s_I32 s_BYTE s_DOUBLE s_I64 s_MAP s_STRUCT s_LIST s_SET s_STRING s_DEF) (b q : Addr) (E0 : Exa Z h b "java/util/ArrayList") : Con l Z (⟨"com/example/strictwire/strictwire/ValueList", "holdsOnly", "(Ljava/util/List;Lcom/example/strictwire/strictwire/WireType;)Z"⟩ : MethodName) prog_38_method_7_code 3 (some .boolean) ({ frames := 0, cells := 0, slots := 0, locals := 0 } : Room) #[(.ref b), (.ref q)] h n0 (fun v h' => v = some (.int (0 : Int32)) ∧ h' = h) := by
  refine Con.mk (Ls := #[.val (.ref b), .val (.ref q), .unset]) (plainFor_of_name pn_1) (fun m => by first | (simp [entryFrame, mkF, argsToLocals, Value.category]; done) | rfl) (fun w C => ?_)
  replace C : Cx w l Z "com/example/strictwire/strictwire/ValueList" prog_38_method_7_code 3 (some .boolean) "holdsOnly" ({ frames := 0, cells := 0, slots := 0, locals := 0 } : Room) n0 := C
  obtain ⟨S_BOOL, E_BOOL, S_I16, E_I16, S_I32, E_I32, S_BYTE, E_BYTE, S_DOUBLE, E_DOUBLE, S_I64, E_I64, S_MAP, E_MAP, S_STRUCT, E_STRUCT, S_LIST, E_LIST, S_SET, E_SET, S_STRING, E_STRING, F_I32_ordinal, F_I64_ordinal, F_I16_ordinal, F_DOUBLE_ordinal, F_BYTE_ordinal, F_BOOL_ordinal, F_LIST_ordinal, F_SET_ordinal, F_STRUCT_ordinal, F_STRING_ordinal, F_MAP_ordinal, S_DEF, E_DEF, V_DEF⟩ := id H
  obtain ⟨kD, V_DEF⟩ := V_DEF
  refine g_aloadN C (pc' := 1) d13_0 rfl rfl rfl ?_
  refine g_instN C (pc' := 4) (wd hw 90 rfl) d13_1 rfl E0 (ns_no (wd hw 91 rfl) (wd hw 104 rfl) (NS.step (wd hw 91 rfl) (NS.step (wd hw 92 rfl) (NS.step (wd hw 93 rfl) (ns_root (wd hw 94 rfl) (wd hw 104 rfl) (by decide)) (by decide)) (by decide)) (by decide)) (by decide)) rfl ?_
  refine g_ifY C (pc' := 24) d13_4 rfl (by decide) (by decide) rfl ?_
  refine g_iconst C (pc' := 25) (v := (0 : Int32)) d13_24 (by decide) rfl ?_
  exact g_zreturn C d13_25 rfl rfl (Nat.le_of_ble_eq_true rfl) (Nat.le_of_ble_eq_true rfl) (⟨rfl, rfl⟩)
def LQ : Option Value → Heap → Prop := fun v _ => v = some (.int (1 : Int32))
theorem pd_0 : parseMethodDescriptor "(I)Lcom/example/strictwire/strictwire/WireType;" = some ⟨[.int], some (.object "com/example/strictwire/strictwire/WireType")⟩ := by decide +kernel
theorem pd_8 : parseMethodDescriptor "(Ljava/util/List;Lcom/example/strictwire/strictwire/WireType;)Z" = some ⟨[(.object "java/util/List"), (.object "com/example/strictwire/strictwire/WireType")], some .boolean⟩ := by decide +kernel
theorem pd_1 : parseMethodDescriptor "(I)V" = some ⟨[.int], none⟩ := by decide +kernel
theorem pd_3 : parseMethodDescriptor "(Ljava/lang/Object;)Z" = some ⟨[(.object "java/lang/Object")], some .boolean⟩ := by decide +kernel
theorem pd_9 : parseMethodDescriptor "([Lcom/example/strictwire/strictwire/Value;Lcom/example/strictwire/strictwire/WireType;)Lcom/example/strictwire/strictwire/ValueList;" = some ⟨[(.array (.object "com/example/strictwire/strictwire/Value")), (.object "com/example/strictwire/strictwire/WireType")], some (.object "com/example/strictwire/strictwire/ValueList")⟩ := by decide +kernel
set_option maxRecDepth 65536 in
set_option maxHeartbeats 40000000 in
theorem rm0 (l : Launch) (Z : State) (a0 : Array Value) (hw : ∀ d ∈ tables_1, d.before a0 Z = true) (n0 : Nat) (h : Heap) (O : Old Z n0 h) (s_BOOL : Addr) (s_I16 : Addr) (s_I32 : Addr) (s_BYTE : Addr) (s_DOUBLE : Addr) (s_I64 : Addr) (s_MAP : Addr) (s_STRUCT : Addr) (s_LIST : Addr) (s_SET : Addr) (s_STRING : Addr) (s_DEF : Addr) (H : En Z s_BOOL s_I16 s_I32 s_BYTE s_DOUBLE s_I64 s_MAP s_STRUCT s_LIST s_SET s_STRING s_DEF) (p0 : Int32) (p1 : Int32) (p2 : Int32) (p3 : Int32) : Con l Z x code maxLocals ret room_1 #[(.int p0), (.int p1), (.int p2), (.int p3)] h n0 (LQ) := by
  refine Con.mk (Ls := #[.val (.int p0), .val (.int p1), .val (.int p2), .val (.int p3), .unset, .unset, .unset, .unset, .unset, .unset, .unset, .unset, .unset, .unset]) (plainFor_of_name pn_2) (fun m => by first | (simp [entryFrame, mkF, argsToLocals, Value.category, maxLocals]; done) | rfl) (fun w C => ?_)
  replace C : Cx w l Z "com/example/strictwire/strictwire/ValueListHoldsOnlyPinLaw" code 14 (some .boolean) "law" room_1 n0 := C
  obtain ⟨S_BOOL, E_BOOL, S_I16, E_I16, S_I32, E_I32, S_BYTE, E_BYTE, S_DOUBLE, E_DOUBLE, S_I64, E_I64, S_MAP, E_MAP, S_STRUCT, E_STRUCT, S_LIST, E_LIST, S_SET, E_SET, S_STRING, E_STRING, F_I32_ordinal, F_I64_ordinal, F_I16_ordinal, F_DOUBLE_ordinal, F_BYTE_ordinal, F_BOOL_ordinal, F_LIST_ordinal, F_SET_ordinal, F_STRUCT_ordinal, F_STRING_ordinal, F_MAP_ordinal, S_DEF, E_DEF, V_DEF⟩ := id H
  obtain ⟨kD, V_DEF⟩ := V_DEF
  refine g_iloadN C (pc' := 1) at_0 rfl rfl ?_
  refine g_iconst C (pc' := 2) (v := (1 : Int32)) at_1 (by decide) rfl ?_
  refine g_iand C (pc' := 3) at_2 rfl rfl ?_
  refine g_ifB C (pcT := 10) (pc' := 6) at_3 rfl (by decide) rfl rfl (fun hc189 => ?_) (fun hc189 => ?_)
  · replace hc189 : (p2 &&& (1 : Int32)) = (0 : Int32) := hc189
    refine g_iconst C (pc' := 11) (v := (0 : Int32)) at_10 (by decide) rfl ?_
    refine g_istore C (pc' := 13) (Ls' := #[.val (.int p0), .val (.int p1), .val (.int p2), .val (.int p3), .val (.int (0 : Int32)), .unset, .unset, .unset, .unset, .unset, .unset, .unset, .unset, .unset]) at_11 rfl rfl rfl ?_
    refine g_iloadN C (pc' := 14) at_13 rfl rfl ?_
    refine g_iconst C (pc' := 15) (v := (2 : Int32)) at_14 (by decide) rfl ?_
    refine g_iand C (pc' := 16) at_15 rfl rfl ?_
    refine g_ifB C (pcT := 23) (pc' := 19) at_16 rfl (by decide) rfl rfl (fun hc190 => ?_) (fun hc190 => ?_)
    · replace hc190 : (p2 &&& (2 : Int32)) = (0 : Int32) := hc190
      refine g_iconst C (pc' := 24) (v := (0 : Int32)) at_23 (by decide) rfl ?_
      refine g_istore C (pc' := 26) (Ls' := #[.val (.int p0), .val (.int p1), .val (.int p2), .val (.int p3), .val (.int (0 : Int32)), .val (.int (0 : Int32)), .unset, .unset, .unset, .unset, .unset, .unset, .unset, .unset]) at_24 rfl rfl rfl ?_
      refine g_iloadN C (pc' := 27) at_26 rfl rfl ?_
      refine g_iconst C (pc' := 28) (v := (4 : Int32)) at_27 (by decide) rfl ?_
      refine g_iand C (pc' := 29) at_28 rfl rfl ?_
      refine g_ifB C (pcT := 36) (pc' := 32) at_29 rfl (by decide) rfl rfl (fun hc191 => ?_) (fun hc191 => ?_)
      · replace hc191 : (p2 &&& (4 : Int32)) = (0 : Int32) := hc191
        refine g_iconst C (pc' := 37) (v := (0 : Int32)) at_36 (by decide) rfl ?_
        refine g_istore C (pc' := 39) (Ls' := #[.val (.int p0), .val (.int p1), .val (.int p2), .val (.int p3), .val (.int (0 : Int32)), .val (.int (0 : Int32)), .val (.int (0 : Int32)), .unset, .unset, .unset, .unset, .unset, .unset, .unset]) at_37 rfl rfl rfl ?_
        refine g_iloadN C (pc' := 40) at_39 rfl rfl ?_
        refine g_callS C (pc' := 43) (k' := 0) (n' := 0) (argsL := [(.int p0)]) (rest := []) (wd hw 0 rfl) (wd hw 1 rfl) (wd hw 2 rfl) (wd hw 3 rfl) (by decide) at_40 pd_0 rfl rfl rfl (typeAt l Z a0 hw n0 h O s_BOOL s_I16 s_I32 s_BYTE s_DOUBLE s_I64 s_MAP s_STRUCT s_LIST s_SET s_STRING s_DEF H p0) (Nat.le_of_ble_eq_true rfl) (Nat.le_of_ble_eq_true rfl) (Nat.le_of_ble_eq_true rfl) (Nat.le_of_ble_eq_true rfl) rfl rfl rfl (fun v195 h194 q196 => ?_)
        obtain ⟨ty192, rfl, eq193⟩ := q196
        subst h194
        show G w _ h 0 0 43 #[.val (.int p0), .val (.int p1), .val (.int p2), .val (.int p3), .val (.int (0 : Int32)), .val (.int (0 : Int32)), .val (.int (0 : Int32)), .unset, .unset, .unset, .unset, .unset, .unset, .unset] [(.ref ty192)]
        refine g_astore C (pc' := 45) (Ls' := #[.val (.int p0), .val (.int p1), .val (.int p2), .val (.int p3), .val (.int (0 : Int32)), .val (.int (0 : Int32)), .val (.int (0 : Int32)), .val (.ref ty192), .unset, .unset, .unset, .unset, .unset, .unset]) at_43 rfl rfl rfl rfl ?_
        refine g_iloadN C (pc' := 46) at_45 rfl rfl ?_
        refine g_callS C (pc' := 49) (k' := 0) (n' := 0) (argsL := [(.int p1)]) (rest := []) (wd hw 0 rfl) (wd hw 1 rfl) (wd hw 2 rfl) (wd hw 3 rfl) (by decide) at_46 pd_0 rfl rfl rfl (typeAt l Z a0 hw n0 h O s_BOOL s_I16 s_I32 s_BYTE s_DOUBLE s_I64 s_MAP s_STRUCT s_LIST s_SET s_STRING s_DEF H p1) (Nat.le_of_ble_eq_true rfl) (Nat.le_of_ble_eq_true rfl) (Nat.le_of_ble_eq_true rfl) (Nat.le_of_ble_eq_true rfl) rfl rfl rfl (fun v200 h199 q201 => ?_)
        obtain ⟨ty197, rfl, eq198⟩ := q201
        subst h199
        show G w _ h 0 0 49 #[.val (.int p0), .val (.int p1), .val (.int p2), .val (.int p3), .val (.int (0 : Int32)), .val (.int (0 : Int32)), .val (.int (0 : Int32)), .val (.ref ty192), .unset, .unset, .unset, .unset, .unset, .unset] [(.ref ty197)]
        refine g_astore C (pc' := 51) (Ls' := #[.val (.int p0), .val (.int p1), .val (.int p2), .val (.int p3), .val (.int (0 : Int32)), .val (.int (0 : Int32)), .val (.int (0 : Int32)), .val (.ref ty192), .val (.ref ty197), .unset, .unset, .unset, .unset, .unset]) at_49 rfl rfl rfl rfl ?_
        refine g_iload C (pc' := 53) at_51 rfl rfl ?_
        refine g_ifY C (pc' := 62) at_53 rfl (by decide) (by decide) rfl ?_
        refine g_aload C (pc' := 64) at_62 rfl rfl rfl ?_
        refine g_astore C (pc' := 66) (Ls' := #[.val (.int p0), .val (.int p1), .val (.int p2), .val (.int p3), .val (.int (0 : Int32)), .val (.int (0 : Int32)), .val (.int (0 : Int32)), .val (.ref ty192), .val (.ref ty197), .val (.ref ty192), .unset, .unset, .unset, .unset]) at_64 rfl rfl rfl rfl ?_
        refine g_iload C (pc' := 68) at_66 rfl rfl ?_
        refine g_ifY C (pc' := 76) at_68 rfl (by decide) (by decide) rfl ?_
        refine g_aload C (pc' := 78) at_76 rfl rfl rfl ?_
        refine g_astore C (pc' := 80) (Ls' := #[.val (.int p0), .val (.int p1), .val (.int p2), .val (.int p3), .val (.int (0 : Int32)), .val (.int (0 : Int32)), .val (.int (0 : Int32)), .val (.ref ty192), .val (.ref ty197), .val (.ref ty192), .val (.ref ty197), .unset, .unset, .unset]) at_78 rfl rfl rfl rfl ?_
        refine g_iload C (pc' := 82) at_80 rfl rfl ?_
        refine g_ifY C (pc' := 106) at_82 rfl (by decide) (by decide) rfl ?_
        refine g_iconst C (pc' := 107) (v := (0 : Int32)) at_106 (by decide) rfl ?_
        refine g_newRE C (pc' := 110) (k' := 1) (n' := 0) (cap := 0) (ad := "[Lcom/example/strictwire/strictwire/Value;") (wd hw 12 rfl) (wd hw 13 rfl) (by decide) at_107 rfl (by decide) (by decide) (by decide) (by decide) (by decide) rfl rfl rfl (fun h202 b203 kA204 ex205 E206 A207 B209 Ov208 => ?_)
        have ge_b203 : n0 ≤ b203 := by rw [ex205]; exact O.1 ▸ O.2.1
        have f210 := O.ext E206
        refine g_astore C (pc' := 112) (Ls' := #[.val (.int p0), .val (.int p1), .val (.int p2), .val (.int p3), .val (.int (0 : Int32)), .val (.int (0 : Int32)), .val (.int (0 : Int32)), .val (.ref ty192), .val (.ref ty197), .val (.ref ty192), .val (.ref ty197), .val (.ref b203), .unset, .unset]) at_110 rfl rfl rfl rfl ?_
        refine g_iload C (pc' := 114) at_112 rfl rfl ?_
        refine g_ifY C (pc' := 129) at_114 rfl (by decide) (by decide) rfl ?_
        refine g_new C (pc' := 132) (k' := 2) (n' := 3) (wd hw 31 rfl) (wd hw 32 rfl) (wd hw 33 rfl) at_129 (by decide) (by decide) rfl rfl rfl (fun h211 b212 ex213 E214 A215 D216 => ?_)
        have ne_b203_b212 : b203 ≠ b212 := Nat.ne_of_lt (by rw [ex213]; exact A207.lt)
        have ge_b212 : n0 ≤ b212 := by rw [ex213]; exact f210.1 ▸ f210.2.1
        have f217 := f210.ext E214
        have f218 := A207.ext E214
        have f219 := B209.ext E214
        have F_modCount_b212 : Fld Z h211 b212 "java/util/AbstractList" "modCount" "I" (.int (0 : Int32)) := D216 (Or.inl (wd hw 51 rfl)) (ty := .int) (by decide)
        have F_elementData_b212 : Fld Z h211 b212 "java/util/ArrayList" "elementData" "[Ljava/lang/Object;" .null := D216 (Or.inl (wd hw 54 rfl)) (ty := (.array (.object "java/lang/Object"))) (by decide)
        have F_size_b212 : Fld Z h211 b212 "java/util/ArrayList" "size" "I" (.int (0 : Int32)) := D216 (Or.inl (wd hw 63 rfl)) (ty := .int) (by decide)
        refine g_dup C (pc' := 133) at_132 rfl rfl rfl ?_
        refine g_special C (pc' := 136) (k' := 2) (n' := 3) (argsL := []) (rest := [(.ref b212)]) (wd hw 34 rfl) (wd hw 35 rfl) (wd hw 33 rfl) (wd hw 36 rfl) (by decide) rfl at_133 pd_2 rfl rfl rfl (al_init l Z a0 hw n0 h211 f217 s_BOOL s_I16 s_I32 s_BYTE s_DOUBLE s_I64 s_MAP s_STRUCT s_LIST s_SET s_STRING s_DEF H b212 ge_b212 A215 F_modCount_b212 F_elementData_b212 F_size_b212) (Nat.le_of_ble_eq_true rfl) (Nat.le_of_ble_eq_true rfl) (Nat.le_of_ble_eq_true rfl) (Nat.le_of_ble_eq_true rfl) rfl rfl rfl (fun v223 h222 q224 => ?_)
        obtain ⟨rfl, K220, P221⟩ := q224
        have f225 := f217.keep K220 (allS ge_b212 all0)
        have f226 := f218.keep K220 (ninS ne_b203_b212 nin0)
        have f227 := f219.keep K220
        have f228 := A215.keep K220
        show G w _ h222 2 3 136 #[.val (.int p0), .val (.int p1), .val (.int p2), .val (.int p3), .val (.int (0 : Int32)), .val (.int (0 : Int32)), .val (.int (0 : Int32)), .val (.ref ty192), .val (.ref ty197), .val (.ref ty192), .val (.ref ty197), .val (.ref b203), .unset, .unset] [(.ref b212)]
        refine g_astore C (pc' := 138) (Ls' := #[.val (.int p0), .val (.int p1), .val (.int p2), .val (.int p3), .val (.int (0 : Int32)), .val (.int (0 : Int32)), .val (.int (0 : Int32)), .val (.ref ty192), .val (.ref ty197), .val (.ref ty192), .val (.ref ty197), .val (.ref b203), .unset, .val (.ref b212)]) at_136 rfl rfl rfl rfl ?_
        refine g_iload C (pc' := 140) at_138 rfl rfl ?_
        refine g_ifY C (pc' := 153) at_140 rfl (by decide) (by decide) rfl ?_
        refine g_aload C (pc' := 155) at_153 rfl rfl rfl ?_
        refine g_astore C (pc' := 157) (Ls' := #[.val (.int p0), .val (.int p1), .val (.int p2), .val (.int p3), .val (.int (0 : Int32)), .val (.int (0 : Int32)), .val (.int (0 : Int32)), .val (.ref ty192), .val (.ref ty197), .val (.ref ty192), .val (.ref ty197), .val (.ref b203), .val (.ref b212), .val (.ref b212)]) at_155 rfl rfl rfl rfl ?_
        refine g_iload C (pc' := 159) at_157 rfl rfl ?_
        refine g_ifY C (pc' := 173) at_159 rfl (by decide) (by decide) rfl ?_
        refine g_iconst C (pc' := 174) (v := (0 : Int32)) at_173 (by decide) rfl ?_
        refine g_istore C (pc' := 176) (Ls' := #[.val (.int p0), .val (.int p1), .val (.int p2), .val (.int p3), .val (.int (0 : Int32)), .val (.int (0 : Int32)), .val (.int (0 : Int32)), .val (.ref ty192), .val (.ref ty197), .val (.ref ty192), .val (.ref ty197), .val (.ref b203), .val (.ref b212), .val (.int (0 : Int32))]) at_174 rfl rfl rfl ?_
        refine g_aload C (pc' := 178) at_176 rfl rfl rfl ?_
        refine g_aload C (pc' := 180) at_178 rfl rfl rfl ?_
        refine g_callS C (pc' := 183) (k' := 2) (n' := 3) (argsL := [(.ref b212), (.ref ty197)]) (rest := []) (wd hw 86 rfl) (wd hw 87 rfl) (wd hw 88 rfl) (wd hw 89 rfl) (by decide) at_180 pd_8 rfl rfl rfl (ho_al l Z a0 hw n0 h222 f225 s_BOOL s_I16 s_I32 s_BYTE s_DOUBLE s_I64 s_MAP s_STRUCT s_LIST s_SET s_STRING s_DEF H b212 ty197 f228) (Nat.le_of_ble_eq_true rfl) (Nat.le_of_ble_eq_true rfl) (Nat.le_of_ble_eq_true rfl) (Nat.le_of_ble_eq_true rfl) rfl rfl rfl (fun v230 h229 q231 => ?_)
        obtain ⟨rfl, eh229⟩ := q231
        subst h229
        show G w _ h222 2 3 183 #[.val (.int p0), .val (.int p1), .val (.int p2), .val (.int p3), .val (.int (0 : Int32)), .val (.int (0 : Int32)), .val (.int (0 : Int32)), .val (.ref ty192), .val (.ref ty197), .val (.ref ty192), .val (.ref ty197), .val (.ref b203), .val (.ref b212), .val (.int (0 : Int32))] [(.int (0 : Int32))]
        refine g_iload C (pc' := 185) at_183 rfl rfl ?_
        refine g_icN C (pc' := 188) at_185 rfl (by decide) rfl ?_
        refine g_iconst C (pc' := 189) (v := (1 : Int32)) at_188 (by decide) rfl ?_
        refine g_goto C (pc' := 193) at_189 (by decide) rfl ?_
        exact g_zreturn C at_193 rfl rfl (Nat.le_of_ble_eq_true rfl) (Nat.le_of_ble_eq_true rfl) (rfl)
      · replace hc191 : ¬ (p2 &&& (4 : Int32)) = (0 : Int32) := hc191
        refine g_iconst C (pc' := 33) (v := (1 : Int32)) at_32 (by decide) rfl ?_
        refine g_goto C (pc' := 37) at_33 (by decide) rfl ?_
        refine g_istore C (pc' := 39) (Ls' := #[.val (.int p0), .val (.int p1), .val (.int p2), .val (.int p3), .val (.int (0 : Int32)), .val (.int (0 : Int32)), .val (.int (1 : Int32)), .unset, .unset, .unset, .unset, .unset, .unset, .unset]) at_37 rfl rfl rfl ?_
        refine g_iloadN C (pc' := 40) at_39 rfl rfl ?_
        refine g_callS C (pc' := 43) (k' := 0) (n' := 0) (argsL := [(.int p0)]) (rest := []) (wd hw 0 rfl) (wd hw 1 rfl) (wd hw 2 rfl) (wd hw 3 rfl) (by decide) at_40 pd_0 rfl rfl rfl (typeAt l Z a0 hw n0 h O s_BOOL s_I16 s_I32 s_BYTE s_DOUBLE s_I64 s_MAP s_STRUCT s_LIST s_SET s_STRING s_DEF H p0) (Nat.le_of_ble_eq_true rfl) (Nat.le_of_ble_eq_true rfl) (Nat.le_of_ble_eq_true rfl) (Nat.le_of_ble_eq_true rfl) rfl rfl rfl (fun v235 h234 q236 => ?_)
        obtain ⟨ty232, rfl, eq233⟩ := q236
        subst h234
        show G w _ h 0 0 43 #[.val (.int p0), .val (.int p1), .val (.int p2), .val (.int p3), .val (.int (0 : Int32)), .val (.int (0 : Int32)), .val (.int (1 : Int32)), .unset, .unset, .unset, .unset, .unset, .unset, .unset] [(.ref ty232)]
        refine g_astore C (pc' := 45) (Ls' := #[.val (.int p0), .val (.int p1), .val (.int p2), .val (.int p3), .val (.int (0 : Int32)), .val (.int (0 : Int32)), .val (.int (1 : Int32)), .val (.ref ty232), .unset, .unset, .unset, .unset, .unset, .unset]) at_43 rfl rfl rfl rfl ?_
        refine g_iloadN C (pc' := 46) at_45 rfl rfl ?_
        refine g_callS C (pc' := 49) (k' := 0) (n' := 0) (argsL := [(.int p1)]) (rest := []) (wd hw 0 rfl) (wd hw 1 rfl) (wd hw 2 rfl) (wd hw 3 rfl) (by decide) at_46 pd_0 rfl rfl rfl (typeAt l Z a0 hw n0 h O s_BOOL s_I16 s_I32 s_BYTE s_DOUBLE s_I64 s_MAP s_STRUCT s_LIST s_SET s_STRING s_DEF H p1) (Nat.le_of_ble_eq_true rfl) (Nat.le_of_ble_eq_true rfl) (Nat.le_of_ble_eq_true rfl) (Nat.le_of_ble_eq_true rfl) rfl rfl rfl (fun v240 h239 q241 => ?_)
        obtain ⟨ty237, rfl, eq238⟩ := q241
        subst h239
        show G w _ h 0 0 49 #[.val (.int p0), .val (.int p1), .val (.int p2), .val (.int p3), .val (.int (0 : Int32)), .val (.int (0 : Int32)), .val (.int (1 : Int32)), .val (.ref ty232), .unset, .unset, .unset, .unset, .unset, .unset] [(.ref ty237)]
        refine g_astore C (pc' := 51) (Ls' := #[.val (.int p0), .val (.int p1), .val (.int p2), .val (.int p3), .val (.int (0 : Int32)), .val (.int (0 : Int32)), .val (.int (1 : Int32)), .val (.ref ty232), .val (.ref ty237), .unset, .unset, .unset, .unset, .unset]) at_49 rfl rfl rfl rfl ?_
        refine g_iload C (pc' := 53) at_51 rfl rfl ?_
        refine g_ifY C (pc' := 62) at_53 rfl (by decide) (by decide) rfl ?_
        refine g_aload C (pc' := 64) at_62 rfl rfl rfl ?_
        refine g_astore C (pc' := 66) (Ls' := #[.val (.int p0), .val (.int p1), .val (.int p2), .val (.int p3), .val (.int (0 : Int32)), .val (.int (0 : Int32)), .val (.int (1 : Int32)), .val (.ref ty232), .val (.ref ty237), .val (.ref ty232), .unset, .unset, .unset, .unset]) at_64 rfl rfl rfl rfl ?_
        refine g_iload C (pc' := 68) at_66 rfl rfl ?_
        refine g_ifN C (pc' := 71) at_68 rfl (by decide) rfl ?_
        refine g_aload C (pc' := 73) at_71 rfl rfl rfl ?_
        refine g_goto C (pc' := 78) at_73 (by decide) rfl ?_
        refine g_astore C (pc' := 80) (Ls' := #[.val (.int p0), .val (.int p1), .val (.int p2), .val (.int p3), .val (.int (0 : Int32)), .val (.int (0 : Int32)), .val (.int (1 : Int32)), .val (.ref ty232), .val (.ref ty237), .val (.ref ty232), .val (.ref ty232), .unset, .unset, .unset]) at_78 rfl rfl rfl rfl ?_
        refine g_iload C (pc' := 82) at_80 rfl rfl ?_
        refine g_ifY C (pc' := 106) at_82 rfl (by decide) (by decide) rfl ?_
        refine g_iconst C (pc' := 107) (v := (0 : Int32)) at_106 (by decide) rfl ?_
        refine g_newRE C (pc' := 110) (k' := 1) (n' := 0) (cap := 0) (ad := "[Lcom/example/strictwire/strictwire/Value;") (wd hw 12 rfl) (wd hw 13 rfl) (by decide) at_107 rfl (by decide) (by decide) (by decide) (by decide) (by decide) rfl rfl rfl (fun h242 b243 kA244 ex245 E246 A247 B249 Ov248 => ?_)
        have ge_b243 : n0 ≤ b243 := by rw [ex245]; exact O.1 ▸ O.2.1
        have f250 := O.ext E246
        refine g_astore C (pc' := 112) (Ls' := #[.val (.int p0), .val (.int p1), .val (.int p2), .val (.int p3), .val (.int (0 : Int32)), .val (.int (0 : Int32)), .val (.int (1 : Int32)), .val (.ref ty232), .val (.ref ty237), .val (.ref ty232), .val (.ref ty232), .val (.ref b243), .unset, .unset]) at_110 rfl rfl rfl rfl ?_
        refine g_iload C (pc' := 114) at_112 rfl rfl ?_
        refine g_ifY C (pc' := 129) at_114 rfl (by decide) (by decide) rfl ?_
        refine g_new C (pc' := 132) (k' := 2) (n' := 3) (wd hw 31 rfl) (wd hw 32 rfl) (wd hw 33 rfl) at_129 (by decide) (by decide) rfl rfl rfl (fun h251 b252 ex253 E254 A255 D256 => ?_)
        have ne_b243_b252 : b243 ≠ b252 := Nat.ne_of_lt (by rw [ex253]; exact A247.lt)
        have ge_b252 : n0 ≤ b252 := by rw [ex253]; exact f250.1 ▸ f250.2.1
        have f257 := f250.ext E254
        have f258 := A247.ext E254
        have f259 := B249.ext E254
        have F_modCount_b252 : Fld Z h251 b252 "java/util/AbstractList" "modCount" "I" (.int (0 : Int32)) := D256 (Or.inl (wd hw 51 rfl)) (ty := .int) (by decide)
        have F_elementData_b252 : Fld Z h251 b252 "java/util/ArrayList" "elementData" "[Ljava/lang/Object;" .null := D256 (Or.inl (wd hw 54 rfl)) (ty := (.array (.object "java/lang/Object"))) (by decide)
        have F_size_b252 : Fld Z h251 b252 "java/util/ArrayList" "size" "I" (.int (0 : Int32)) := D256 (Or.inl (wd hw 63 rfl)) (ty := .int) (by decide)
        refine g_dup C (pc' := 133) at_132 rfl rfl rfl ?_
        refine g_special C (pc' := 136) (k' := 2) (n' := 3) (argsL := []) (rest := [(.ref b252)]) (wd hw 34 rfl) (wd hw 35 rfl) (wd hw 33 rfl) (wd hw 36 rfl) (by decide) rfl at_133 pd_2 rfl rfl rfl (al_init l Z a0 hw n0 h251 f257 s_BOOL s_I16 s_I32 s_BYTE s_DOUBLE s_I64 s_MAP s_STRUCT s_LIST s_SET s_STRING s_DEF H b252 ge_b252 A255 F_modCount_b252 F_elementData_b252 F_size_b252) (Nat.le_of_ble_eq_true rfl) (Nat.le_of_ble_eq_true rfl) (Nat.le_of_ble_eq_true rfl) (Nat.le_of_ble_eq_true rfl) rfl rfl rfl (fun v263 h262 q264 => ?_)
        obtain ⟨rfl, K260, P261⟩ := q264
        have f265 := f257.keep K260 (allS ge_b252 all0)
        have f266 := f258.keep K260 (ninS ne_b243_b252 nin0)
        have f267 := f259.keep K260
        have f268 := A255.keep K260
        show G w _ h262 2 3 136 #[.val (.int p0), .val (.int p1), .val (.int p2), .val (.int p3), .val (.int (0 : Int32)), .val (.int (0 : Int32)), .val (.int (1 : Int32)), .val (.ref ty232), .val (.ref ty237), .val (.ref ty232), .val (.ref ty232), .val (.ref b243), .unset, .unset] [(.ref b252)]
        refine g_astore C (pc' := 138) (Ls' := #[.val (.int p0), .val (.int p1), .val (.int p2), .val (.int p3), .val (.int (0 : Int32)), .val (.int (0 : Int32)), .val (.int (1 : Int32)), .val (.ref ty232), .val (.ref ty237), .val (.ref ty232), .val (.ref ty232), .val (.ref b243), .unset, .val (.ref b252)]) at_136 rfl rfl rfl rfl ?_
        refine g_iload C (pc' := 140) at_138 rfl rfl ?_
        refine g_ifY C (pc' := 153) at_140 rfl (by decide) (by decide) rfl ?_
        refine g_aload C (pc' := 155) at_153 rfl rfl rfl ?_
        refine g_astore C (pc' := 157) (Ls' := #[.val (.int p0), .val (.int p1), .val (.int p2), .val (.int p3), .val (.int (0 : Int32)), .val (.int (0 : Int32)), .val (.int (1 : Int32)), .val (.ref ty232), .val (.ref ty237), .val (.ref ty232), .val (.ref ty232), .val (.ref b243), .val (.ref b252), .val (.ref b252)]) at_155 rfl rfl rfl rfl ?_
        refine g_iload C (pc' := 159) at_157 rfl rfl ?_
        refine g_ifY C (pc' := 173) at_159 rfl (by decide) (by decide) rfl ?_
        refine g_iconst C (pc' := 174) (v := (0 : Int32)) at_173 (by decide) rfl ?_
        refine g_istore C (pc' := 176) (Ls' := #[.val (.int p0), .val (.int p1), .val (.int p2), .val (.int p3), .val (.int (0 : Int32)), .val (.int (0 : Int32)), .val (.int (1 : Int32)), .val (.ref ty232), .val (.ref ty237), .val (.ref ty232), .val (.ref ty232), .val (.ref b243), .val (.ref b252), .val (.int (0 : Int32))]) at_174 rfl rfl rfl ?_
        refine g_aload C (pc' := 178) at_176 rfl rfl rfl ?_
        refine g_aload C (pc' := 180) at_178 rfl rfl rfl ?_
        refine g_callS C (pc' := 183) (k' := 2) (n' := 3) (argsL := [(.ref b252), (.ref ty232)]) (rest := []) (wd hw 86 rfl) (wd hw 87 rfl) (wd hw 88 rfl) (wd hw 89 rfl) (by decide) at_180 pd_8 rfl rfl rfl (ho_al l Z a0 hw n0 h262 f265 s_BOOL s_I16 s_I32 s_BYTE s_DOUBLE s_I64 s_MAP s_STRUCT s_LIST s_SET s_STRING s_DEF H b252 ty232 f268) (Nat.le_of_ble_eq_true rfl) (Nat.le_of_ble_eq_true rfl) (Nat.le_of_ble_eq_true rfl) (Nat.le_of_ble_eq_true rfl) rfl rfl rfl (fun v270 h269 q271 => ?_)
        obtain ⟨rfl, eh269⟩ := q271
        subst h269
        show G w _ h262 2 3 183 #[.val (.int p0), .val (.int p1), .val (.int p2), .val (.int p3), .val (.int (0 : Int32)), .val (.int (0 : Int32)), .val (.int (1 : Int32)), .val (.ref ty232), .val (.ref ty237), .val (.ref ty232), .val (.ref ty232), .val (.ref b243), .val (.ref b252), .val (.int (0 : Int32))] [(.int (0 : Int32))]
        refine g_iload C (pc' := 185) at_183 rfl rfl ?_
        refine g_icN C (pc' := 188) at_185 rfl (by decide) rfl ?_
        refine g_iconst C (pc' := 189) (v := (1 : Int32)) at_188 (by decide) rfl ?_
        refine g_goto C (pc' := 193) at_189 (by decide) rfl ?_
        exact g_zreturn C at_193 rfl rfl (Nat.le_of_ble_eq_true rfl) (Nat.le_of_ble_eq_true rfl) (rfl)
    · replace hc190 : ¬ (p2 &&& (2 : Int32)) = (0 : Int32) := hc190
      refine g_iconst C (pc' := 20) (v := (1 : Int32)) at_19 (by decide) rfl ?_
      refine g_goto C (pc' := 24) at_20 (by decide) rfl ?_
      refine g_istore C (pc' := 26) (Ls' := #[.val (.int p0), .val (.int p1), .val (.int p2), .val (.int p3), .val (.int (0 : Int32)), .val (.int (1 : Int32)), .unset, .unset, .unset, .unset, .unset, .unset, .unset, .unset]) at_24 rfl rfl rfl ?_
      refine g_iloadN C (pc' := 27) at_26 rfl rfl ?_
      refine g_iconst C (pc' := 28) (v := (4 : Int32)) at_27 (by decide) rfl ?_
      refine g_iand C (pc' := 29) at_28 rfl rfl ?_
      refine g_ifB C (pcT := 36) (pc' := 32) at_29 rfl (by decide) rfl rfl (fun hc272 => ?_) (fun hc272 => ?_)
      · replace hc272 : (p2 &&& (4 : Int32)) = (0 : Int32) := hc272
        refine g_iconst C (pc' := 37) (v := (0 : Int32)) at_36 (by decide) rfl ?_
        refine g_istore C (pc' := 39) (Ls' := #[.val (.int p0), .val (.int p1), .val (.int p2), .val (.int p3), .val (.int (0 : Int32)), .val (.int (1 : Int32)), .val (.int (0 : Int32)), .unset, .unset, .unset, .unset, .unset, .unset, .unset]) at_37 rfl rfl rfl ?_
        refine g_iloadN C (pc' := 40) at_39 rfl rfl ?_
        refine g_callS C (pc' := 43) (k' := 0) (n' := 0) (argsL := [(.int p0)]) (rest := []) (wd hw 0 rfl) (wd hw 1 rfl) (wd hw 2 rfl) (wd hw 3 rfl) (by decide) at_40 pd_0 rfl rfl rfl (typeAt l Z a0 hw n0 h O s_BOOL s_I16 s_I32 s_BYTE s_DOUBLE s_I64 s_MAP s_STRUCT s_LIST s_SET s_STRING s_DEF H p0) (Nat.le_of_ble_eq_true rfl) (Nat.le_of_ble_eq_true rfl) (Nat.le_of_ble_eq_true rfl) (Nat.le_of_ble_eq_true rfl) rfl rfl rfl (fun v276 h275 q277 => ?_)
        obtain ⟨ty273, rfl, eq274⟩ := q277
        subst h275
        show G w _ h 0 0 43 #[.val (.int p0), .val (.int p1), .val (.int p2), .val (.int p3), .val (.int (0 : Int32)), .val (.int (1 : Int32)), .val (.int (0 : Int32)), .unset, .unset, .unset, .unset, .unset, .unset, .unset] [(.ref ty273)]
        refine g_astore C (pc' := 45) (Ls' := #[.val (.int p0), .val (.int p1), .val (.int p2), .val (.int p3), .val (.int (0 : Int32)), .val (.int (1 : Int32)), .val (.int (0 : Int32)), .val (.ref ty273), .unset, .unset, .unset, .unset, .unset, .unset]) at_43 rfl rfl rfl rfl ?_
        refine g_iloadN C (pc' := 46) at_45 rfl rfl ?_
        refine g_callS C (pc' := 49) (k' := 0) (n' := 0) (argsL := [(.int p1)]) (rest := []) (wd hw 0 rfl) (wd hw 1 rfl) (wd hw 2 rfl) (wd hw 3 rfl) (by decide) at_46 pd_0 rfl rfl rfl (typeAt l Z a0 hw n0 h O s_BOOL s_I16 s_I32 s_BYTE s_DOUBLE s_I64 s_MAP s_STRUCT s_LIST s_SET s_STRING s_DEF H p1) (Nat.le_of_ble_eq_true rfl) (Nat.le_of_ble_eq_true rfl) (Nat.le_of_ble_eq_true rfl) (Nat.le_of_ble_eq_true rfl) rfl rfl rfl (fun v281 h280 q282 => ?_)
        obtain ⟨ty278, rfl, eq279⟩ := q282
        subst h280
        show G w _ h 0 0 49 #[.val (.int p0), .val (.int p1), .val (.int p2), .val (.int p3), .val (.int (0 : Int32)), .val (.int (1 : Int32)), .val (.int (0 : Int32)), .val (.ref ty273), .unset, .unset, .unset, .unset, .unset, .unset] [(.ref ty278)]
        refine g_astore C (pc' := 51) (Ls' := #[.val (.int p0), .val (.int p1), .val (.int p2), .val (.int p3), .val (.int (0 : Int32)), .val (.int (1 : Int32)), .val (.int (0 : Int32)), .val (.ref ty273), .val (.ref ty278), .unset, .unset, .unset, .unset, .unset]) at_49 rfl rfl rfl rfl ?_
        refine g_iload C (pc' := 53) at_51 rfl rfl ?_
        refine g_ifN C (pc' := 56) at_53 rfl (by decide) rfl ?_
        refine g_getS C (pc' := 59) (wd hw 10 rfl) Via.refl at_56 (S_I32.ext O.2) rfl ?_
        refine g_goto C (pc' := 64) at_59 (by decide) rfl ?_
        refine g_astore C (pc' := 66) (Ls' := #[.val (.int p0), .val (.int p1), .val (.int p2), .val (.int p3), .val (.int (0 : Int32)), .val (.int (1 : Int32)), .val (.int (0 : Int32)), .val (.ref ty273), .val (.ref ty278), .val (.ref s_I32), .unset, .unset, .unset, .unset]) at_64 rfl rfl rfl rfl ?_
        refine g_iload C (pc' := 68) at_66 rfl rfl ?_
        refine g_ifY C (pc' := 76) at_68 rfl (by decide) (by decide) rfl ?_
        refine g_aload C (pc' := 78) at_76 rfl rfl rfl ?_
        refine g_astore C (pc' := 80) (Ls' := #[.val (.int p0), .val (.int p1), .val (.int p2), .val (.int p3), .val (.int (0 : Int32)), .val (.int (1 : Int32)), .val (.int (0 : Int32)), .val (.ref ty273), .val (.ref ty278), .val (.ref s_I32), .val (.ref ty278), .unset, .unset, .unset]) at_78 rfl rfl rfl rfl ?_
        refine g_iload C (pc' := 82) at_80 rfl rfl ?_
        refine g_ifN C (pc' := 85) at_82 rfl (by decide) rfl ?_
        refine g_iconst C (pc' := 86) (v := (1 : Int32)) at_85 (by decide) rfl ?_
        refine g_newRE C (pc' := 89) (k' := 1) (n' := 1) (cap := 1) (ad := "[Lcom/example/strictwire/strictwire/Value;") (wd hw 12 rfl) (wd hw 13 rfl) (by decide) at_86 rfl (by decide) (by decide) (by decide) (by decide) (by decide) rfl rfl rfl (fun h283 b284 kA285 ex286 E287 A288 B290 Ov289 => ?_)
        have ge_b284 : n0 ≤ b284 := by rw [ex286]; exact O.1 ▸ O.2.1
        have f291 := O.ext E287
        have A292 : Arv Z h283 b284 kA285 (.object "com/example/strictwire/strictwire/Value") (1 : Int32) [.null] .null := A288.pad (pad_rep [] .null 1)
        refine g_astore C (pc' := 91) (Ls' := #[.val (.int p0), .val (.int p1), .val (.int p2), .val (.int p3), .val (.int (0 : Int32)), .val (.int (1 : Int32)), .val (.int (0 : Int32)), .val (.ref ty273), .val (.ref ty278), .val (.ref s_I32), .val (.ref ty278), .val (.ref b284), .unset, .unset]) at_89 rfl rfl rfl rfl ?_
        refine g_aload C (pc' := 93) at_91 rfl rfl rfl ?_
        refine g_iconst C (pc' := 94) (v := (0 : Int32)) at_93 (by decide) rfl ?_
        refine g_new C (pc' := 97) (k' := 2) (n' := 2) (wd hw 14 rfl) (wd hw 15 rfl) (wd hw 16 rfl) at_94 (by decide) (by decide) rfl rfl rfl (fun h293 b294 ex295 E296 A297 D298 => ?_)
        have ne_b284_b294 : b284 ≠ b294 := Nat.ne_of_lt (by rw [ex295]; exact A292.lt)
        have ge_b294 : n0 ≤ b294 := by rw [ex295]; exact f291.1 ▸ f291.2.1
        have f299 := f291.ext E296
        have f300 := A292.ext E296
        have f301 := B290.ext E296
        have F_value_b294 : Fld Z h293 b294 "com/example/strictwire/strictwire/I32Value" "value" "I" (.int (0 : Int32)) := D298 (Or.inr (wd hw 29 rfl)) (ty := .int) (by decide)
        refine g_dup C (pc' := 98) at_97 rfl rfl rfl ?_
        refine g_iloadN C (pc' := 99) at_98 rfl rfl ?_
        refine g_special C (pc' := 102) (k' := 2) (n' := 2) (argsL := [(.int p3)]) (rest := [(.ref b294), (.int (0 : Int32)), (.ref b284)]) (wd hw 17 rfl) (wd hw 18 rfl) (wd hw 16 rfl) (wd hw 19 rfl) (by decide) rfl at_99 pd_1 rfl rfl rfl (ivI l Z a0 hw n0 h293 f299 s_BOOL s_I16 s_I32 s_BYTE s_DOUBLE s_I64 s_MAP s_STRUCT s_LIST s_SET s_STRING s_DEF H b294 p3 ge_b294 A297 F_value_b294) (Nat.le_of_ble_eq_true rfl) (Nat.le_of_ble_eq_true rfl) (Nat.le_of_ble_eq_true rfl) (Nat.le_of_ble_eq_true rfl) rfl rfl rfl (fun v304 h303 q305 => ?_)
        obtain ⟨rfl, K302⟩ := q305
        have f306 := f299.keep K302 (allS ge_b294 all0)
        have f307 := f300.keep K302 (ninS ne_b284_b294 nin0)
        have f308 := f301.keep K302
        have f309 := A297.keep K302
        show G w _ h303 2 2 102 #[.val (.int p0), .val (.int p1), .val (.int p2), .val (.int p3), .val (.int (0 : Int32)), .val (.int (1 : Int32)), .val (.int (0 : Int32)), .val (.ref ty273), .val (.ref ty278), .val (.ref s_I32), .val (.ref ty278), .val (.ref b284), .unset, .unset] [(.ref b294), (.int (0 : Int32)), (.ref b284)]
        refine g_aastore C (pc' := 103) at_102 rfl f307 rfl (stoR f307 Ov289 (Ins.of_exa f309 (wd hw 30 rfl))) (by decide) (by decide) ge_b284 rfl (fun h310 W311 => ?_)
        have f312 := f306.wr W311 ge_b284
        have f313 := (arv_put f307 rfl W311 (i := 0) rfl (Nat.le_of_ble_eq_true rfl) : Arv Z h310 b284 kA285 (.object "com/example/strictwire/strictwire/Value") (1 : Int32) [(.ref b294)] .null)
        have f314 := f308.wr W311
        have f315 := f309.wr W311
        refine g_goto C (pc' := 112) at_103 (by decide) rfl ?_
        refine g_iload C (pc' := 114) at_112 rfl rfl ?_
        refine g_ifY C (pc' := 129) at_114 rfl (by decide) (by decide) rfl ?_
        refine g_new C (pc' := 132) (k' := 3) (n' := 5) (wd hw 31 rfl) (wd hw 32 rfl) (wd hw 33 rfl) at_129 (by decide) (by decide) rfl rfl rfl (fun h316 b317 ex318 E319 A320 D321 => ?_)
        have ne_b284_b317 : b284 ≠ b317 := Nat.ne_of_lt (by rw [ex318]; exact f313.lt)
        have ne_b294_b317 : b294 ≠ b317 := Nat.ne_of_lt (by rw [ex318]; exact f315.lt)
        have ge_b317 : n0 ≤ b317 := by rw [ex318]; exact f312.1 ▸ f312.2.1
        have f322 := f312.ext E319
        have f323 := f313.ext E319
        have f324 := f314.ext E319
        have f325 := f315.ext E319
        have F_modCount_b317 : Fld Z h316 b317 "java/util/AbstractList" "modCount" "I" (.int (0 : Int32)) := D321 (Or.inl (wd hw 51 rfl)) (ty := .int) (by decide)
        have F_elementData_b317 : Fld Z h316 b317 "java/util/ArrayList" "elementData" "[Ljava/lang/Object;" .null := D321 (Or.inl (wd hw 54 rfl)) (ty := (.array (.object "java/lang/Object"))) (by decide)
        have F_size_b317 : Fld Z h316 b317 "java/util/ArrayList" "size" "I" (.int (0 : Int32)) := D321 (Or.inl (wd hw 63 rfl)) (ty := .int) (by decide)
        refine g_dup C (pc' := 133) at_132 rfl rfl rfl ?_
        refine g_special C (pc' := 136) (k' := 3) (n' := 5) (argsL := []) (rest := [(.ref b317)]) (wd hw 34 rfl) (wd hw 35 rfl) (wd hw 33 rfl) (wd hw 36 rfl) (by decide) rfl at_133 pd_2 rfl rfl rfl (al_init l Z a0 hw n0 h316 f322 s_BOOL s_I16 s_I32 s_BYTE s_DOUBLE s_I64 s_MAP s_STRUCT s_LIST s_SET s_STRING s_DEF H b317 ge_b317 A320 F_modCount_b317 F_elementData_b317 F_size_b317) (Nat.le_of_ble_eq_true rfl) (Nat.le_of_ble_eq_true rfl) (Nat.le_of_ble_eq_true rfl) (Nat.le_of_ble_eq_true rfl) rfl rfl rfl (fun v329 h328 q330 => ?_)
        obtain ⟨rfl, K326, P327⟩ := q330
        have f331 := f322.keep K326 (allS ge_b317 all0)
        have f332 := f323.keep K326 (ninS ne_b284_b317 nin0)
        have f333 := f324.keep K326
        have f334 := f325.keep K326
        have f335 := A320.keep K326
        show G w _ h328 3 5 136 #[.val (.int p0), .val (.int p1), .val (.int p2), .val (.int p3), .val (.int (0 : Int32)), .val (.int (1 : Int32)), .val (.int (0 : Int32)), .val (.ref ty273), .val (.ref ty278), .val (.ref s_I32), .val (.ref ty278), .val (.ref b284), .unset, .unset] [(.ref b317)]
        refine g_astore C (pc' := 138) (Ls' := #[.val (.int p0), .val (.int p1), .val (.int p2), .val (.int p3), .val (.int (0 : Int32)), .val (.int (1 : Int32)), .val (.int (0 : Int32)), .val (.ref ty273), .val (.ref ty278), .val (.ref s_I32), .val (.ref ty278), .val (.ref b284), .unset, .val (.ref b317)]) at_136 rfl rfl rfl rfl ?_
        refine g_iload C (pc' := 140) at_138 rfl rfl ?_
        refine g_ifN C (pc' := 143) at_140 rfl (by decide) rfl ?_
        refine g_aload C (pc' := 145) at_143 rfl rfl rfl ?_
        refine g_aload C (pc' := 147) at_145 rfl rfl rfl ?_
        refine g_iconst C (pc' := 148) (v := (0 : Int32)) at_147 (by decide) rfl ?_
        refine g_aaload C (pc' := 149) (x := (.ref b294)) at_148 rfl f332 rfl (by decide) (by decide) rfl rfl ?_
        refine g_virtual C (pc' := 152) (k' := 4) (n' := 15) (argsL := [(.ref b294)]) (rest := []) (wd hw 55 rfl) (wd hw 56 rfl) (nfSel (wd hw 58 rfl)) (wd hw 58 rfl) (wd hw 57 rfl) (wd hw 33 rfl) (wd hw 59 rfl) (by decide) at_149 pd_3 rfl rfl rfl f335 (add_0 l Z a0 hw n0 h328 f331 s_BOOL s_I16 s_I32 s_BYTE s_DOUBLE s_I64 s_MAP s_STRUCT s_LIST s_SET s_STRING s_DEF H b317 (0 : Int32) b294 f334 P327) (Nat.le_of_ble_eq_true rfl) (Nat.le_of_ble_eq_true rfl) (Nat.le_of_ble_eq_true rfl) (Nat.le_of_ble_eq_true rfl) rfl rfl rfl (fun v342 h341 q343 => ?_)
        obtain ⟨rfl, K336, ed338, kE339, hg340, P337⟩ := q343
        have ne_b284_ed338 : b284 ≠ ed338 := Nat.ne_of_lt (Nat.lt_of_lt_of_le f332.lt hg340)
        have ne_b294_ed338 : b294 ≠ ed338 := Nat.ne_of_lt (Nat.lt_of_lt_of_le f334.lt hg340)
        have ne_b317_ed338 : b317 ≠ ed338 := Nat.ne_of_lt (Nat.lt_of_lt_of_le f335.lt hg340)
        have ge_ed338 : n0 ≤ ed338 := Nat.le_trans (f331.1 ▸ f331.2.1) hg340
        have f344 := f331.keep K336 (allS ge_b317 all0)
        have f345 := f332.keep K336 (ninS ne_b284_b317 nin0)
        have f346 := f333.keep K336
        have f347 := f334.keep K336
        have f348 := f335.keep K336
        have E349 := P337.2.2.2.2.2.1
        show G w _ h341 4 15 152 #[.val (.int p0), .val (.int p1), .val (.int p2), .val (.int p3), .val (.int (0 : Int32)), .val (.int (1 : Int32)), .val (.int (0 : Int32)), .val (.ref ty273), .val (.ref ty278), .val (.ref s_I32), .val (.ref ty278), .val (.ref b284), .unset, .val (.ref b317)] [(.int (1 : Int32))]
        refine g_pop C (pc' := 153) at_152 rfl rfl rfl ?_
        refine g_aload C (pc' := 155) at_153 rfl rfl rfl ?_
        refine g_astore C (pc' := 157) (Ls' := #[.val (.int p0), .val (.int p1), .val (.int p2), .val (.int p3), .val (.int (0 : Int32)), .val (.int (1 : Int32)), .val (.int (0 : Int32)), .val (.ref ty273), .val (.ref ty278), .val (.ref s_I32), .val (.ref ty278), .val (.ref b284), .val (.ref b317), .val (.ref b317)]) at_155 rfl rfl rfl rfl ?_
        refine g_iload C (pc' := 159) at_157 rfl rfl ?_
        refine g_ifY C (pc' := 173) at_159 rfl (by decide) (by decide) rfl ?_
        refine g_iconst C (pc' := 174) (v := (0 : Int32)) at_173 (by decide) rfl ?_
        refine g_istore C (pc' := 176) (Ls' := #[.val (.int p0), .val (.int p1), .val (.int p2), .val (.int p3), .val (.int (0 : Int32)), .val (.int (1 : Int32)), .val (.int (0 : Int32)), .val (.ref ty273), .val (.ref ty278), .val (.ref s_I32), .val (.ref ty278), .val (.ref b284), .val (.ref b317), .val (.int (0 : Int32))]) at_174 rfl rfl rfl ?_
        refine g_aload C (pc' := 178) at_176 rfl rfl rfl ?_
        refine g_aload C (pc' := 180) at_178 rfl rfl rfl ?_
        refine g_callS C (pc' := 183) (k' := 4) (n' := 15) (argsL := [(.ref b317), (.ref ty278)]) (rest := []) (wd hw 86 rfl) (wd hw 87 rfl) (wd hw 88 rfl) (wd hw 89 rfl) (by decide) at_180 pd_8 rfl rfl rfl (ho_al l Z a0 hw n0 h341 f344 s_BOOL s_I16 s_I32 s_BYTE s_DOUBLE s_I64 s_MAP s_STRUCT s_LIST s_SET s_STRING s_DEF H b317 ty278 f348) (Nat.le_of_ble_eq_true rfl) (Nat.le_of_ble_eq_true rfl) (Nat.le_of_ble_eq_true rfl) (Nat.le_of_ble_eq_true rfl) rfl rfl rfl (fun v351 h350 q352 => ?_)
        obtain ⟨rfl, eh350⟩ := q352
        subst h350
        show G w _ h341 4 15 183 #[.val (.int p0), .val (.int p1), .val (.int p2), .val (.int p3), .val (.int (0 : Int32)), .val (.int (1 : Int32)), .val (.int (0 : Int32)), .val (.ref ty273), .val (.ref ty278), .val (.ref s_I32), .val (.ref ty278), .val (.ref b284), .val (.ref b317), .val (.int (0 : Int32))] [(.int (0 : Int32))]
        refine g_iload C (pc' := 185) at_183 rfl rfl ?_
        refine g_icN C (pc' := 188) at_185 rfl (by decide) rfl ?_
        refine g_iconst C (pc' := 189) (v := (1 : Int32)) at_188 (by decide) rfl ?_
        refine g_goto C (pc' := 193) at_189 (by decide) rfl ?_
        exact g_zreturn C at_193 rfl rfl (Nat.le_of_ble_eq_true rfl) (Nat.le_of_ble_eq_true rfl) (rfl)
      · replace hc272 : ¬ (p2 &&& (4 : Int32)) = (0 : Int32) := hc272
        refine g_iconst C (pc' := 33) (v := (1 : Int32)) at_32 (by decide) rfl ?_
        refine g_goto C (pc' := 37) at_33 (by decide) rfl ?_
        refine g_istore C (pc' := 39) (Ls' := #[.val (.int p0), .val (.int p1), .val (.int p2), .val (.int p3), .val (.int (0 : Int32)), .val (.int (1 : Int32)), .val (.int (1 : Int32)), .unset, .unset, .unset, .unset, .unset, .unset, .unset]) at_37 rfl rfl rfl ?_
        refine g_iloadN C (pc' := 40) at_39 rfl rfl ?_
        refine g_callS C (pc' := 43) (k' := 0) (n' := 0) (argsL := [(.int p0)]) (rest := []) (wd hw 0 rfl) (wd hw 1 rfl) (wd hw 2 rfl) (wd hw 3 rfl) (by decide) at_40 pd_0 rfl rfl rfl (typeAt l Z a0 hw n0 h O s_BOOL s_I16 s_I32 s_BYTE s_DOUBLE s_I64 s_MAP s_STRUCT s_LIST s_SET s_STRING s_DEF H p0) (Nat.le_of_ble_eq_true rfl) (Nat.le_of_ble_eq_true rfl) (Nat.le_of_ble_eq_true rfl) (Nat.le_of_ble_eq_true rfl) rfl rfl rfl (fun v356 h355 q357 => ?_)
        obtain ⟨ty353, rfl, eq354⟩ := q357
        subst h355
        show G w _ h 0 0 43 #[.val (.int p0), .val (.int p1), .val (.int p2), .val (.int p3), .val (.int (0 : Int32)), .val (.int (1 : Int32)), .val (.int (1 : Int32)), .unset, .unset, .unset, .unset, .unset, .unset, .unset] [(.ref ty353)]
        refine g_astore C (pc' := 45) (Ls' := #[.val (.int p0), .val (.int p1), .val (.int p2), .val (.int p3), .val (.int (0 : Int32)), .val (.int (1 : Int32)), .val (.int (1 : Int32)), .val (.ref ty353), .unset, .unset, .unset, .unset, .unset, .unset]) at_43 rfl rfl rfl rfl ?_
        refine g_iloadN C (pc' := 46) at_45 rfl rfl ?_
        refine g_callS C (pc' := 49) (k' := 0) (n' := 0) (argsL := [(.int p1)]) (rest := []) (wd hw 0 rfl) (wd hw 1 rfl) (wd hw 2 rfl) (wd hw 3 rfl) (by decide) at_46 pd_0 rfl rfl rfl (typeAt l Z a0 hw n0 h O s_BOOL s_I16 s_I32 s_BYTE s_DOUBLE s_I64 s_MAP s_STRUCT s_LIST s_SET s_STRING s_DEF H p1) (Nat.le_of_ble_eq_true rfl) (Nat.le_of_ble_eq_true rfl) (Nat.le_of_ble_eq_true rfl) (Nat.le_of_ble_eq_true rfl) rfl rfl rfl (fun v361 h360 q362 => ?_)
        obtain ⟨ty358, rfl, eq359⟩ := q362
        subst h360
        show G w _ h 0 0 49 #[.val (.int p0), .val (.int p1), .val (.int p2), .val (.int p3), .val (.int (0 : Int32)), .val (.int (1 : Int32)), .val (.int (1 : Int32)), .val (.ref ty353), .unset, .unset, .unset, .unset, .unset, .unset] [(.ref ty358)]
        refine g_astore C (pc' := 51) (Ls' := #[.val (.int p0), .val (.int p1), .val (.int p2), .val (.int p3), .val (.int (0 : Int32)), .val (.int (1 : Int32)), .val (.int (1 : Int32)), .val (.ref ty353), .val (.ref ty358), .unset, .unset, .unset, .unset, .unset]) at_49 rfl rfl rfl rfl ?_
        refine g_iload C (pc' := 53) at_51 rfl rfl ?_
        refine g_ifN C (pc' := 56) at_53 rfl (by decide) rfl ?_
        refine g_getS C (pc' := 59) (wd hw 10 rfl) Via.refl at_56 (S_I32.ext O.2) rfl ?_
        refine g_goto C (pc' := 64) at_59 (by decide) rfl ?_
        refine g_astore C (pc' := 66) (Ls' := #[.val (.int p0), .val (.int p1), .val (.int p2), .val (.int p3), .val (.int (0 : Int32)), .val (.int (1 : Int32)), .val (.int (1 : Int32)), .val (.ref ty353), .val (.ref ty358), .val (.ref s_I32), .unset, .unset, .unset, .unset]) at_64 rfl rfl rfl rfl ?_
        refine g_iload C (pc' := 68) at_66 rfl rfl ?_
        refine g_ifN C (pc' := 71) at_68 rfl (by decide) rfl ?_
        refine g_aload C (pc' := 73) at_71 rfl rfl rfl ?_
        refine g_goto C (pc' := 78) at_73 (by decide) rfl ?_
        refine g_astore C (pc' := 80) (Ls' := #[.val (.int p0), .val (.int p1), .val (.int p2), .val (.int p3), .val (.int (0 : Int32)), .val (.int (1 : Int32)), .val (.int (1 : Int32)), .val (.ref ty353), .val (.ref ty358), .val (.ref s_I32), .val (.ref s_I32), .unset, .unset, .unset]) at_78 rfl rfl rfl rfl ?_
        refine g_iload C (pc' := 82) at_80 rfl rfl ?_
        refine g_ifN C (pc' := 85) at_82 rfl (by decide) rfl ?_
        refine g_iconst C (pc' := 86) (v := (1 : Int32)) at_85 (by decide) rfl ?_
        refine g_newRE C (pc' := 89) (k' := 1) (n' := 1) (cap := 1) (ad := "[Lcom/example/strictwire/strictwire/Value;") (wd hw 12 rfl) (wd hw 13 rfl) (by decide) at_86 rfl (by decide) (by decide) (by decide) (by decide) (by decide) rfl rfl rfl (fun h363 b364 kA365 ex366 E367 A368 B370 Ov369 => ?_)
        have ge_b364 : n0 ≤ b364 := by rw [ex366]; exact O.1 ▸ O.2.1
        have f371 := O.ext E367
        have A372 : Arv Z h363 b364 kA365 (.object "com/example/strictwire/strictwire/Value") (1 : Int32) [.null] .null := A368.pad (pad_rep [] .null 1)
        refine g_astore C (pc' := 91) (Ls' := #[.val (.int p0), .val (.int p1), .val (.int p2), .val (.int p3), .val (.int (0 : Int32)), .val (.int (1 : Int32)), .val (.int (1 : Int32)), .val (.ref ty353), .val (.ref ty358), .val (.ref s_I32), .val (.ref s_I32), .val (.ref b364), .unset, .unset]) at_89 rfl rfl rfl rfl ?_
        refine g_aload C (pc' := 93) at_91 rfl rfl rfl ?_
        refine g_iconst C (pc' := 94) (v := (0 : Int32)) at_93 (by decide) rfl ?_
        refine g_new C (pc' := 97) (k' := 2) (n' := 2) (wd hw 14 rfl) (wd hw 15 rfl) (wd hw 16 rfl) at_94 (by decide) (by decide) rfl rfl rfl (fun h373 b374 ex375 E376 A377 D378 => ?_)
        have ne_b364_b374 : b364 ≠ b374 := Nat.ne_of_lt (by rw [ex375]; exact A372.lt)
        have ge_b374 : n0 ≤ b374 := by rw [ex375]; exact f371.1 ▸ f371.2.1
        have f379 := f371.ext E376
        have f380 := A372.ext E376
        have f381 := B370.ext E376
        have F_value_b374 : Fld Z h373 b374 "com/example/strictwire/strictwire/I32Value" "value" "I" (.int (0 : Int32)) := D378 (Or.inr (wd hw 29 rfl)) (ty := .int) (by decide)
        refine g_dup C (pc' := 98) at_97 rfl rfl rfl ?_
        refine g_iloadN C (pc' := 99) at_98 rfl rfl ?_
        refine g_special C (pc' := 102) (k' := 2) (n' := 2) (argsL := [(.int p3)]) (rest := [(.ref b374), (.int (0 : Int32)), (.ref b364)]) (wd hw 17 rfl) (wd hw 18 rfl) (wd hw 16 rfl) (wd hw 19 rfl) (by decide) rfl at_99 pd_1 rfl rfl rfl (ivI l Z a0 hw n0 h373 f379 s_BOOL s_I16 s_I32 s_BYTE s_DOUBLE s_I64 s_MAP s_STRUCT s_LIST s_SET s_STRING s_DEF H b374 p3 ge_b374 A377 F_value_b374) (Nat.le_of_ble_eq_true rfl) (Nat.le_of_ble_eq_true rfl) (Nat.le_of_ble_eq_true rfl) (Nat.le_of_ble_eq_true rfl) rfl rfl rfl (fun v384 h383 q385 => ?_)
        obtain ⟨rfl, K382⟩ := q385
        have f386 := f379.keep K382 (allS ge_b374 all0)
        have f387 := f380.keep K382 (ninS ne_b364_b374 nin0)
        have f388 := f381.keep K382
        have f389 := A377.keep K382
        show G w _ h383 2 2 102 #[.val (.int p0), .val (.int p1), .val (.int p2), .val (.int p3), .val (.int (0 : Int32)), .val (.int (1 : Int32)), .val (.int (1 : Int32)), .val (.ref ty353), .val (.ref ty358), .val (.ref s_I32), .val (.ref s_I32), .val (.ref b364), .unset, .unset] [(.ref b374), (.int (0 : Int32)), (.ref b364)]
        refine g_aastore C (pc' := 103) at_102 rfl f387 rfl (stoR f387 Ov369 (Ins.of_exa f389 (wd hw 30 rfl))) (by decide) (by decide) ge_b364 rfl (fun h390 W391 => ?_)
        have f392 := f386.wr W391 ge_b364
        have f393 := (arv_put f387 rfl W391 (i := 0) rfl (Nat.le_of_ble_eq_true rfl) : Arv Z h390 b364 kA365 (.object "com/example/strictwire/strictwire/Value") (1 : Int32) [(.ref b374)] .null)
        have f394 := f388.wr W391
        have f395 := f389.wr W391
        refine g_goto C (pc' := 112) at_103 (by decide) rfl ?_
        refine g_iload C (pc' := 114) at_112 rfl rfl ?_
        refine g_ifY C (pc' := 129) at_114 rfl (by decide) (by decide) rfl ?_
        refine g_new C (pc' := 132) (k' := 3) (n' := 5) (wd hw 31 rfl) (wd hw 32 rfl) (wd hw 33 rfl) at_129 (by decide) (by decide) rfl rfl rfl (fun h396 b397 ex398 E399 A400 D401 => ?_)
        have ne_b364_b397 : b364 ≠ b397 := Nat.ne_of_lt (by rw [ex398]; exact f393.lt)
        have ne_b374_b397 : b374 ≠ b397 := Nat.ne_of_lt (by rw [ex398]; exact f395.lt)
        have ge_b397 : n0 ≤ b397 := by rw [ex398]; exact f392.1 ▸ f392.2.1
        have f402 := f392.ext E399
        have f403 := f393.ext E399
        have f404 := f394.ext E399
        have f405 := f395.ext E399
        have F_modCount_b397 : Fld Z h396 b397 "java/util/AbstractList" "modCount" "I" (.int (0 : Int32)) := D401 (Or.inl (wd hw 51 rfl)) (ty := .int) (by decide)
        have F_elementData_b397 : Fld Z h396 b397 "java/util/ArrayList" "elementData" "[Ljava/lang/Object;" .null := D401 (Or.inl (wd hw 54 rfl)) (ty := (.array (.object "java/lang/Object"))) (by decide)
        have F_size_b397 : Fld Z h396 b397 "java/util/ArrayList" "size" "I" (.int (0 : Int32)) := D401 (Or.inl (wd hw 63 rfl)) (ty := .int) (by decide)
        refine g_dup C (pc' := 133) at_132 rfl rfl rfl ?_
        refine g_special C (pc' := 136) (k' := 3) (n' := 5) (argsL := []) (rest := [(.ref b397)]) (wd hw 34 rfl) (wd hw 35 rfl) (wd hw 33 rfl) (wd hw 36 rfl) (by decide) rfl at_133 pd_2 rfl rfl rfl (al_init l Z a0 hw n0 h396 f402 s_BOOL s_I16 s_I32 s_BYTE s_DOUBLE s_I64 s_MAP s_STRUCT s_LIST s_SET s_STRING s_DEF H b397 ge_b397 A400 F_modCount_b397 F_elementData_b397 F_size_b397) (Nat.le_of_ble_eq_true rfl) (Nat.le_of_ble_eq_true rfl) (Nat.le_of_ble_eq_true rfl) (Nat.le_of_ble_eq_true rfl) rfl rfl rfl (fun v409 h408 q410 => ?_)
        obtain ⟨rfl, K406, P407⟩ := q410
        have f411 := f402.keep K406 (allS ge_b397 all0)
        have f412 := f403.keep K406 (ninS ne_b364_b397 nin0)
        have f413 := f404.keep K406
        have f414 := f405.keep K406
        have f415 := A400.keep K406
        show G w _ h408 3 5 136 #[.val (.int p0), .val (.int p1), .val (.int p2), .val (.int p3), .val (.int (0 : Int32)), .val (.int (1 : Int32)), .val (.int (1 : Int32)), .val (.ref ty353), .val (.ref ty358), .val (.ref s_I32), .val (.ref s_I32), .val (.ref b364), .unset, .unset] [(.ref b397)]
        refine g_astore C (pc' := 138) (Ls' := #[.val (.int p0), .val (.int p1), .val (.int p2), .val (.int p3), .val (.int (0 : Int32)), .val (.int (1 : Int32)), .val (.int (1 : Int32)), .val (.ref ty353), .val (.ref ty358), .val (.ref s_I32), .val (.ref s_I32), .val (.ref b364), .unset, .val (.ref b397)]) at_136 rfl rfl rfl rfl ?_
        refine g_iload C (pc' := 140) at_138 rfl rfl ?_
        refine g_ifN C (pc' := 143) at_140 rfl (by decide) rfl ?_
        refine g_aload C (pc' := 145) at_143 rfl rfl rfl ?_
        refine g_aload C (pc' := 147) at_145 rfl rfl rfl ?_
        refine g_iconst C (pc' := 148) (v := (0 : Int32)) at_147 (by decide) rfl ?_
        refine g_aaload C (pc' := 149) (x := (.ref b374)) at_148 rfl f412 rfl (by decide) (by decide) rfl rfl ?_
        refine g_virtual C (pc' := 152) (k' := 4) (n' := 15) (argsL := [(.ref b374)]) (rest := []) (wd hw 55 rfl) (wd hw 56 rfl) (nfSel (wd hw 58 rfl)) (wd hw 58 rfl) (wd hw 57 rfl) (wd hw 33 rfl) (wd hw 59 rfl) (by decide) at_149 pd_3 rfl rfl rfl f415 (add_0 l Z a0 hw n0 h408 f411 s_BOOL s_I16 s_I32 s_BYTE s_DOUBLE s_I64 s_MAP s_STRUCT s_LIST s_SET s_STRING s_DEF H b397 (0 : Int32) b374 f414 P407) (Nat.le_of_ble_eq_true rfl) (Nat.le_of_ble_eq_true rfl) (Nat.le_of_ble_eq_true rfl) (Nat.le_of_ble_eq_true rfl) rfl rfl rfl (fun v422 h421 q423 => ?_)
        obtain ⟨rfl, K416, ed418, kE419, hg420, P417⟩ := q423
        have ne_b364_ed418 : b364 ≠ ed418 := Nat.ne_of_lt (Nat.lt_of_lt_of_le f412.lt hg420)
        have ne_b374_ed418 : b374 ≠ ed418 := Nat.ne_of_lt (Nat.lt_of_lt_of_le f414.lt hg420)
        have ne_b397_ed418 : b397 ≠ ed418 := Nat.ne_of_lt (Nat.lt_of_lt_of_le f415.lt hg420)
        have ge_ed418 : n0 ≤ ed418 := Nat.le_trans (f411.1 ▸ f411.2.1) hg420
        have f424 := f411.keep K416 (allS ge_b397 all0)
        have f425 := f412.keep K416 (ninS ne_b364_b397 nin0)
        have f426 := f413.keep K416
        have f427 := f414.keep K416
        have f428 := f415.keep K416
        have E429 := P417.2.2.2.2.2.1
        show G w _ h421 4 15 152 #[.val (.int p0), .val (.int p1), .val (.int p2), .val (.int p3), .val (.int (0 : Int32)), .val (.int (1 : Int32)), .val (.int (1 : Int32)), .val (.ref ty353), .val (.ref ty358), .val (.ref s_I32), .val (.ref s_I32), .val (.ref b364), .unset, .val (.ref b397)] [(.int (1 : Int32))]
        refine g_pop C (pc' := 153) at_152 rfl rfl rfl ?_
        refine g_aload C (pc' := 155) at_153 rfl rfl rfl ?_
        refine g_astore C (pc' := 157) (Ls' := #[.val (.int p0), .val (.int p1), .val (.int p2), .val (.int p3), .val (.int (0 : Int32)), .val (.int (1 : Int32)), .val (.int (1 : Int32)), .val (.ref ty353), .val (.ref ty358), .val (.ref s_I32), .val (.ref s_I32), .val (.ref b364), .val (.ref b397), .val (.ref b397)]) at_155 rfl rfl rfl rfl ?_
        refine g_iload C (pc' := 159) at_157 rfl rfl ?_
        refine g_ifY C (pc' := 173) at_159 rfl (by decide) (by decide) rfl ?_
        refine g_iconst C (pc' := 174) (v := (0 : Int32)) at_173 (by decide) rfl ?_
        refine g_istore C (pc' := 176) (Ls' := #[.val (.int p0), .val (.int p1), .val (.int p2), .val (.int p3), .val (.int (0 : Int32)), .val (.int (1 : Int32)), .val (.int (1 : Int32)), .val (.ref ty353), .val (.ref ty358), .val (.ref s_I32), .val (.ref s_I32), .val (.ref b364), .val (.ref b397), .val (.int (0 : Int32))]) at_174 rfl rfl rfl ?_
        refine g_aload C (pc' := 178) at_176 rfl rfl rfl ?_
        refine g_aload C (pc' := 180) at_178 rfl rfl rfl ?_
        refine g_callS C (pc' := 183) (k' := 4) (n' := 15) (argsL := [(.ref b397), (.ref s_I32)]) (rest := []) (wd hw 86 rfl) (wd hw 87 rfl) (wd hw 88 rfl) (wd hw 89 rfl) (by decide) at_180 pd_8 rfl rfl rfl (ho_al l Z a0 hw n0 h421 f424 s_BOOL s_I16 s_I32 s_BYTE s_DOUBLE s_I64 s_MAP s_STRUCT s_LIST s_SET s_STRING s_DEF H b397 s_I32 f428) (Nat.le_of_ble_eq_true rfl) (Nat.le_of_ble_eq_true rfl) (Nat.le_of_ble_eq_true rfl) (Nat.le_of_ble_eq_true rfl) rfl rfl rfl (fun v431 h430 q432 => ?_)
        obtain ⟨rfl, eh430⟩ := q432
        subst h430
        show G w _ h421 4 15 183 #[.val (.int p0), .val (.int p1), .val (.int p2), .val (.int p3), .val (.int (0 : Int32)), .val (.int (1 : Int32)), .val (.int (1 : Int32)), .val (.ref ty353), .val (.ref ty358), .val (.ref s_I32), .val (.ref s_I32), .val (.ref b364), .val (.ref b397), .val (.int (0 : Int32))] [(.int (0 : Int32))]
        refine g_iload C (pc' := 185) at_183 rfl rfl ?_
        refine g_icN C (pc' := 188) at_185 rfl (by decide) rfl ?_
        refine g_iconst C (pc' := 189) (v := (1 : Int32)) at_188 (by decide) rfl ?_
        refine g_goto C (pc' := 193) at_189 (by decide) rfl ?_
        exact g_zreturn C at_193 rfl rfl (Nat.le_of_ble_eq_true rfl) (Nat.le_of_ble_eq_true rfl) (rfl)
  · replace hc189 : ¬ (p2 &&& (1 : Int32)) = (0 : Int32) := hc189
    refine g_iconst C (pc' := 7) (v := (1 : Int32)) at_6 (by decide) rfl ?_
    refine g_goto C (pc' := 11) at_7 (by decide) rfl ?_
    refine g_istore C (pc' := 13) (Ls' := #[.val (.int p0), .val (.int p1), .val (.int p2), .val (.int p3), .val (.int (1 : Int32)), .unset, .unset, .unset, .unset, .unset, .unset, .unset, .unset, .unset]) at_11 rfl rfl rfl ?_
    refine g_iloadN C (pc' := 14) at_13 rfl rfl ?_
    refine g_iconst C (pc' := 15) (v := (2 : Int32)) at_14 (by decide) rfl ?_
    refine g_iand C (pc' := 16) at_15 rfl rfl ?_
    refine g_ifB C (pcT := 23) (pc' := 19) at_16 rfl (by decide) rfl rfl (fun hc433 => ?_) (fun hc433 => ?_)
    · replace hc433 : (p2 &&& (2 : Int32)) = (0 : Int32) := hc433
      refine g_iconst C (pc' := 24) (v := (0 : Int32)) at_23 (by decide) rfl ?_
      refine g_istore C (pc' := 26) (Ls' := #[.val (.int p0), .val (.int p1), .val (.int p2), .val (.int p3), .val (.int (1 : Int32)), .val (.int (0 : Int32)), .unset, .unset, .unset, .unset, .unset, .unset, .unset, .unset]) at_24 rfl rfl rfl ?_
      refine g_iloadN C (pc' := 27) at_26 rfl rfl ?_
      refine g_iconst C (pc' := 28) (v := (4 : Int32)) at_27 (by decide) rfl ?_
      refine g_iand C (pc' := 29) at_28 rfl rfl ?_
      refine g_ifB C (pcT := 36) (pc' := 32) at_29 rfl (by decide) rfl rfl (fun hc434 => ?_) (fun hc434 => ?_)
      · replace hc434 : (p2 &&& (4 : Int32)) = (0 : Int32) := hc434
        refine g_iconst C (pc' := 37) (v := (0 : Int32)) at_36 (by decide) rfl ?_
        refine g_istore C (pc' := 39) (Ls' := #[.val (.int p0), .val (.int p1), .val (.int p2), .val (.int p3), .val (.int (1 : Int32)), .val (.int (0 : Int32)), .val (.int (0 : Int32)), .unset, .unset, .unset, .unset, .unset, .unset, .unset]) at_37 rfl rfl rfl ?_
        refine g_iloadN C (pc' := 40) at_39 rfl rfl ?_
        refine g_callS C (pc' := 43) (k' := 0) (n' := 0) (argsL := [(.int p0)]) (rest := []) (wd hw 0 rfl) (wd hw 1 rfl) (wd hw 2 rfl) (wd hw 3 rfl) (by decide) at_40 pd_0 rfl rfl rfl (typeAt l Z a0 hw n0 h O s_BOOL s_I16 s_I32 s_BYTE s_DOUBLE s_I64 s_MAP s_STRUCT s_LIST s_SET s_STRING s_DEF H p0) (Nat.le_of_ble_eq_true rfl) (Nat.le_of_ble_eq_true rfl) (Nat.le_of_ble_eq_true rfl) (Nat.le_of_ble_eq_true rfl) rfl rfl rfl (fun v438 h437 q439 => ?_)
        obtain ⟨ty435, rfl, eq436⟩ := q439
        subst h437
        show G w _ h 0 0 43 #[.val (.int p0), .val (.int p1), .val (.int p2), .val (.int p3), .val (.int (1 : Int32)), .val (.int (0 : Int32)), .val (.int (0 : Int32)), .unset, .unset, .unset, .unset, .unset, .unset, .unset] [(.ref ty435)]
        refine g_astore C (pc' := 45) (Ls' := #[.val (.int p0), .val (.int p1), .val (.int p2), .val (.int p3), .val (.int (1 : Int32)), .val (.int (0 : Int32)), .val (.int (0 : Int32)), .val (.ref ty435), .unset, .unset, .unset, .unset, .unset, .unset]) at_43 rfl rfl rfl rfl ?_
        refine g_iloadN C (pc' := 46) at_45 rfl rfl ?_
        refine g_callS C (pc' := 49) (k' := 0) (n' := 0) (argsL := [(.int p1)]) (rest := []) (wd hw 0 rfl) (wd hw 1 rfl) (wd hw 2 rfl) (wd hw 3 rfl) (by decide) at_46 pd_0 rfl rfl rfl (typeAt l Z a0 hw n0 h O s_BOOL s_I16 s_I32 s_BYTE s_DOUBLE s_I64 s_MAP s_STRUCT s_LIST s_SET s_STRING s_DEF H p1) (Nat.le_of_ble_eq_true rfl) (Nat.le_of_ble_eq_true rfl) (Nat.le_of_ble_eq_true rfl) (Nat.le_of_ble_eq_true rfl) rfl rfl rfl (fun v443 h442 q444 => ?_)
        obtain ⟨ty440, rfl, eq441⟩ := q444
        subst h442
        show G w _ h 0 0 49 #[.val (.int p0), .val (.int p1), .val (.int p2), .val (.int p3), .val (.int (1 : Int32)), .val (.int (0 : Int32)), .val (.int (0 : Int32)), .val (.ref ty435), .unset, .unset, .unset, .unset, .unset, .unset] [(.ref ty440)]
        refine g_astore C (pc' := 51) (Ls' := #[.val (.int p0), .val (.int p1), .val (.int p2), .val (.int p3), .val (.int (1 : Int32)), .val (.int (0 : Int32)), .val (.int (0 : Int32)), .val (.ref ty435), .val (.ref ty440), .unset, .unset, .unset, .unset, .unset]) at_49 rfl rfl rfl rfl ?_
        refine g_iload C (pc' := 53) at_51 rfl rfl ?_
        refine g_ifY C (pc' := 62) at_53 rfl (by decide) (by decide) rfl ?_
        refine g_aload C (pc' := 64) at_62 rfl rfl rfl ?_
        refine g_astore C (pc' := 66) (Ls' := #[.val (.int p0), .val (.int p1), .val (.int p2), .val (.int p3), .val (.int (1 : Int32)), .val (.int (0 : Int32)), .val (.int (0 : Int32)), .val (.ref ty435), .val (.ref ty440), .val (.ref ty435), .unset, .unset, .unset, .unset]) at_64 rfl rfl rfl rfl ?_
        refine g_iload C (pc' := 68) at_66 rfl rfl ?_
        refine g_ifY C (pc' := 76) at_68 rfl (by decide) (by decide) rfl ?_
        refine g_aload C (pc' := 78) at_76 rfl rfl rfl ?_
        refine g_astore C (pc' := 80) (Ls' := #[.val (.int p0), .val (.int p1), .val (.int p2), .val (.int p3), .val (.int (1 : Int32)), .val (.int (0 : Int32)), .val (.int (0 : Int32)), .val (.ref ty435), .val (.ref ty440), .val (.ref ty435), .val (.ref ty440), .unset, .unset, .unset]) at_78 rfl rfl rfl rfl ?_
        refine g_iload C (pc' := 82) at_80 rfl rfl ?_
        refine g_ifY C (pc' := 106) at_82 rfl (by decide) (by decide) rfl ?_
        refine g_iconst C (pc' := 107) (v := (0 : Int32)) at_106 (by decide) rfl ?_
        refine g_newRE C (pc' := 110) (k' := 1) (n' := 0) (cap := 0) (ad := "[Lcom/example/strictwire/strictwire/Value;") (wd hw 12 rfl) (wd hw 13 rfl) (by decide) at_107 rfl (by decide) (by decide) (by decide) (by decide) (by decide) rfl rfl rfl (fun h445 b446 kA447 ex448 E449 A450 B452 Ov451 => ?_)
        have ge_b446 : n0 ≤ b446 := by rw [ex448]; exact O.1 ▸ O.2.1
        have f453 := O.ext E449
        refine g_astore C (pc' := 112) (Ls' := #[.val (.int p0), .val (.int p1), .val (.int p2), .val (.int p3), .val (.int (1 : Int32)), .val (.int (0 : Int32)), .val (.int (0 : Int32)), .val (.ref ty435), .val (.ref ty440), .val (.ref ty435), .val (.ref ty440), .val (.ref b446), .unset, .unset]) at_110 rfl rfl rfl rfl ?_
        refine g_iload C (pc' := 114) at_112 rfl rfl ?_
        refine g_ifN C (pc' := 117) at_114 rfl (by decide) rfl ?_
        refine g_aload C (pc' := 119) at_117 rfl rfl rfl ?_
        refine g_aload C (pc' := 121) at_119 rfl rfl rfl ?_
        refine g_callS C (pc' := 124) (k' := 2) (n' := 4) (argsL := [(.ref b446), (.ref ty435)]) (rest := []) (wd hw 101 rfl) (wd hw 102 rfl) (wd hw 88 rfl) (wd hw 103 rfl) (by decide) at_121 pd_9 rfl rfl rfl (ofE l Z a0 hw n0 h445 f453 s_BOOL s_I16 s_I32 s_BYTE s_DOUBLE s_I64 s_MAP s_STRUCT s_LIST s_SET s_STRING s_DEF H b446 ty435) (Nat.le_of_ble_eq_true rfl) (Nat.le_of_ble_eq_true rfl) (Nat.le_of_ble_eq_true rfl) (Nat.le_of_ble_eq_true rfl) rfl rfl rfl (fun v460 h459 q461 => ?_)
        obtain ⟨vl454, rfl, q455, q456, q457, q458⟩ := q461
        have ne_b446_vl454 : b446 ≠ vl454 := Nat.ne_of_lt (Nat.lt_of_lt_of_le A450.lt q455)
        have ge_vl454 : n0 ≤ vl454 := Nat.le_trans (f453.1 ▸ f453.2.1) q455
        have f462 := f453.keep q456 all0
        have f463 := A450.keep q456 nin0
        have f464 := B452.keep q456
        show G w _ h459 2 4 124 #[.val (.int p0), .val (.int p1), .val (.int p2), .val (.int p3), .val (.int (1 : Int32)), .val (.int (0 : Int32)), .val (.int (0 : Int32)), .val (.ref ty435), .val (.ref ty440), .val (.ref ty435), .val (.ref ty440), .val (.ref b446), .unset, .unset] [(.ref vl454)]
        refine g_astore C (pc' := 126) (Ls' := #[.val (.int p0), .val (.int p1), .val (.int p2), .val (.int p3), .val (.int (1 : Int32)), .val (.int (0 : Int32)), .val (.int (0 : Int32)), .val (.ref ty435), .val (.ref ty440), .val (.ref ty435), .val (.ref ty440), .val (.ref b446), .val (.ref vl454), .unset]) at_124 rfl rfl rfl rfl ?_
        refine g_goto C (pc' := 157) at_126 (by decide) rfl ?_
        by_cases hsm : ty435 = ty440
        · refine g_iload C (pc' := 159) at_157 rfl rfl ?_
          refine g_ifN C (pc' := 162) at_159 rfl (by decide) rfl ?_
          refine g_aload C (pc' := 164) at_162 rfl rfl rfl ?_
          refine g_aload C (pc' := 166) at_164 rfl rfl rfl ?_
          refine g_acmp C (pc' := 169) (same := true) at_166 rfl rfl rfl (decide_eq_true (congrArg Value.ref hsm)) (by decide) (by decide) ?_
          refine g_iconst C (pc' := 170) (v := (1 : Int32)) at_169 (by decide) rfl ?_
          refine g_goto C (pc' := 174) at_170 (by decide) rfl ?_
          refine g_istore C (pc' := 176) (Ls' := #[.val (.int p0), .val (.int p1), .val (.int p2), .val (.int p3), .val (.int (1 : Int32)), .val (.int (0 : Int32)), .val (.int (0 : Int32)), .val (.ref ty435), .val (.ref ty440), .val (.ref ty435), .val (.ref ty440), .val (.ref b446), .val (.ref vl454), .val (.int (1 : Int32))]) at_174 rfl rfl rfl ?_
          refine g_aload C (pc' := 178) at_176 rfl rfl rfl ?_
          refine g_aload C (pc' := 180) at_178 rfl rfl rfl ?_
          refine g_callS C (pc' := 183) (k' := 2) (n' := 4) (argsL := [(.ref vl454), (.ref ty440)]) (rest := []) (wd hw 86 rfl) (wd hw 87 rfl) (wd hw 88 rfl) (wd hw 89 rfl) (by decide) at_180 pd_8 rfl rfl rfl (ho_1 l Z a0 hw n0 h459 f462 s_BOOL s_I16 s_I32 s_BYTE s_DOUBLE s_I64 s_MAP s_STRUCT s_LIST s_SET s_STRING s_DEF H vl454 ty440 ty435 hsm q457 q458) (Nat.le_of_ble_eq_true rfl) (Nat.le_of_ble_eq_true rfl) (Nat.le_of_ble_eq_true rfl) (Nat.le_of_ble_eq_true rfl) rfl rfl rfl (fun v466 h465 q467 => ?_)
          obtain ⟨rfl, eh465⟩ := q467
          subst h465
          show G w _ h459 2 4 183 #[.val (.int p0), .val (.int p1), .val (.int p2), .val (.int p3), .val (.int (1 : Int32)), .val (.int (0 : Int32)), .val (.int (0 : Int32)), .val (.ref ty435), .val (.ref ty440), .val (.ref ty435), .val (.ref ty440), .val (.ref b446), .val (.ref vl454), .val (.int (1 : Int32))] [(.int (1 : Int32))]
          refine g_iload C (pc' := 185) at_183 rfl rfl ?_
          refine g_icN C (pc' := 188) at_185 rfl (by decide) rfl ?_
          refine g_iconst C (pc' := 189) (v := (1 : Int32)) at_188 (by decide) rfl ?_
          refine g_goto C (pc' := 193) at_189 (by decide) rfl ?_
          exact g_zreturn C at_193 rfl rfl (Nat.le_of_ble_eq_true rfl) (Nat.le_of_ble_eq_true rfl) (rfl)
        · refine g_iload C (pc' := 159) at_157 rfl rfl ?_
          refine g_ifN C (pc' := 162) at_159 rfl (by decide) rfl ?_
          refine g_aload C (pc' := 164) at_162 rfl rfl rfl ?_
          refine g_aload C (pc' := 166) at_164 rfl rfl rfl ?_
          refine g_acmp C (pc' := 173) (same := false) at_166 rfl rfl rfl (decide_eq_false fun e => hsm (Value.ref.inj e)) (by decide) (by decide) ?_
          refine g_iconst C (pc' := 174) (v := (0 : Int32)) at_173 (by decide) rfl ?_
          refine g_istore C (pc' := 176) (Ls' := #[.val (.int p0), .val (.int p1), .val (.int p2), .val (.int p3), .val (.int (1 : Int32)), .val (.int (0 : Int32)), .val (.int (0 : Int32)), .val (.ref ty435), .val (.ref ty440), .val (.ref ty435), .val (.ref ty440), .val (.ref b446), .val (.ref vl454), .val (.int (0 : Int32))]) at_174 rfl rfl rfl ?_
          refine g_aload C (pc' := 178) at_176 rfl rfl rfl ?_
          refine g_aload C (pc' := 180) at_178 rfl rfl rfl ?_
          refine g_callS C (pc' := 183) (k' := 2) (n' := 4) (argsL := [(.ref vl454), (.ref ty440)]) (rest := []) (wd hw 86 rfl) (wd hw 87 rfl) (wd hw 88 rfl) (wd hw 89 rfl) (by decide) at_180 pd_8 rfl rfl rfl (ho_0 l Z a0 hw n0 h459 f462 s_BOOL s_I16 s_I32 s_BYTE s_DOUBLE s_I64 s_MAP s_STRUCT s_LIST s_SET s_STRING s_DEF H vl454 ty440 ty435 hsm q457 q458) (Nat.le_of_ble_eq_true rfl) (Nat.le_of_ble_eq_true rfl) (Nat.le_of_ble_eq_true rfl) (Nat.le_of_ble_eq_true rfl) rfl rfl rfl (fun v469 h468 q470 => ?_)
          obtain ⟨rfl, eh468⟩ := q470
          subst h468
          show G w _ h459 2 4 183 #[.val (.int p0), .val (.int p1), .val (.int p2), .val (.int p3), .val (.int (1 : Int32)), .val (.int (0 : Int32)), .val (.int (0 : Int32)), .val (.ref ty435), .val (.ref ty440), .val (.ref ty435), .val (.ref ty440), .val (.ref b446), .val (.ref vl454), .val (.int (0 : Int32))] [(.int (0 : Int32))]
          refine g_iload C (pc' := 185) at_183 rfl rfl ?_
          refine g_icN C (pc' := 188) at_185 rfl (by decide) rfl ?_
          refine g_iconst C (pc' := 189) (v := (1 : Int32)) at_188 (by decide) rfl ?_
          refine g_goto C (pc' := 193) at_189 (by decide) rfl ?_
          exact g_zreturn C at_193 rfl rfl (Nat.le_of_ble_eq_true rfl) (Nat.le_of_ble_eq_true rfl) (rfl)
      · replace hc434 : ¬ (p2 &&& (4 : Int32)) = (0 : Int32) := hc434
        refine g_iconst C (pc' := 33) (v := (1 : Int32)) at_32 (by decide) rfl ?_
        refine g_goto C (pc' := 37) at_33 (by decide) rfl ?_
        refine g_istore C (pc' := 39) (Ls' := #[.val (.int p0), .val (.int p1), .val (.int p2), .val (.int p3), .val (.int (1 : Int32)), .val (.int (0 : Int32)), .val (.int (1 : Int32)), .unset, .unset, .unset, .unset, .unset, .unset, .unset]) at_37 rfl rfl rfl ?_
        refine g_iloadN C (pc' := 40) at_39 rfl rfl ?_
        refine g_callS C (pc' := 43) (k' := 0) (n' := 0) (argsL := [(.int p0)]) (rest := []) (wd hw 0 rfl) (wd hw 1 rfl) (wd hw 2 rfl) (wd hw 3 rfl) (by decide) at_40 pd_0 rfl rfl rfl (typeAt l Z a0 hw n0 h O s_BOOL s_I16 s_I32 s_BYTE s_DOUBLE s_I64 s_MAP s_STRUCT s_LIST s_SET s_STRING s_DEF H p0) (Nat.le_of_ble_eq_true rfl) (Nat.le_of_ble_eq_true rfl) (Nat.le_of_ble_eq_true rfl) (Nat.le_of_ble_eq_true rfl) rfl rfl rfl (fun v474 h473 q475 => ?_)
        obtain ⟨ty471, rfl, eq472⟩ := q475
        subst h473
        show G w _ h 0 0 43 #[.val (.int p0), .val (.int p1), .val (.int p2), .val (.int p3), .val (.int (1 : Int32)), .val (.int (0 : Int32)), .val (.int (1 : Int32)), .unset, .unset, .unset, .unset, .unset, .unset, .unset] [(.ref ty471)]
        refine g_astore C (pc' := 45) (Ls' := #[.val (.int p0), .val (.int p1), .val (.int p2), .val (.int p3), .val (.int (1 : Int32)), .val (.int (0 : Int32)), .val (.int (1 : Int32)), .val (.ref ty471), .unset, .unset, .unset, .unset, .unset, .unset]) at_43 rfl rfl rfl rfl ?_
        refine g_iloadN C (pc' := 46) at_45 rfl rfl ?_
        refine g_callS C (pc' := 49) (k' := 0) (n' := 0) (argsL := [(.int p1)]) (rest := []) (wd hw 0 rfl) (wd hw 1 rfl) (wd hw 2 rfl) (wd hw 3 rfl) (by decide) at_46 pd_0 rfl rfl rfl (typeAt l Z a0 hw n0 h O s_BOOL s_I16 s_I32 s_BYTE s_DOUBLE s_I64 s_MAP s_STRUCT s_LIST s_SET s_STRING s_DEF H p1) (Nat.le_of_ble_eq_true rfl) (Nat.le_of_ble_eq_true rfl) (Nat.le_of_ble_eq_true rfl) (Nat.le_of_ble_eq_true rfl) rfl rfl rfl (fun v479 h478 q480 => ?_)
        obtain ⟨ty476, rfl, eq477⟩ := q480
        subst h478
        show G w _ h 0 0 49 #[.val (.int p0), .val (.int p1), .val (.int p2), .val (.int p3), .val (.int (1 : Int32)), .val (.int (0 : Int32)), .val (.int (1 : Int32)), .val (.ref ty471), .unset, .unset, .unset, .unset, .unset, .unset] [(.ref ty476)]
        refine g_astore C (pc' := 51) (Ls' := #[.val (.int p0), .val (.int p1), .val (.int p2), .val (.int p3), .val (.int (1 : Int32)), .val (.int (0 : Int32)), .val (.int (1 : Int32)), .val (.ref ty471), .val (.ref ty476), .unset, .unset, .unset, .unset, .unset]) at_49 rfl rfl rfl rfl ?_
        refine g_iload C (pc' := 53) at_51 rfl rfl ?_
        refine g_ifY C (pc' := 62) at_53 rfl (by decide) (by decide) rfl ?_
        refine g_aload C (pc' := 64) at_62 rfl rfl rfl ?_
        refine g_astore C (pc' := 66) (Ls' := #[.val (.int p0), .val (.int p1), .val (.int p2), .val (.int p3), .val (.int (1 : Int32)), .val (.int (0 : Int32)), .val (.int (1 : Int32)), .val (.ref ty471), .val (.ref ty476), .val (.ref ty471), .unset, .unset, .unset, .unset]) at_64 rfl rfl rfl rfl ?_
        refine g_iload C (pc' := 68) at_66 rfl rfl ?_
        refine g_ifN C (pc' := 71) at_68 rfl (by decide) rfl ?_
        refine g_aload C (pc' := 73) at_71 rfl rfl rfl ?_
        refine g_goto C (pc' := 78) at_73 (by decide) rfl ?_
        refine g_astore C (pc' := 80) (Ls' := #[.val (.int p0), .val (.int p1), .val (.int p2), .val (.int p3), .val (.int (1 : Int32)), .val (.int (0 : Int32)), .val (.int (1 : Int32)), .val (.ref ty471), .val (.ref ty476), .val (.ref ty471), .val (.ref ty471), .unset, .unset, .unset]) at_78 rfl rfl rfl rfl ?_
        refine g_iload C (pc' := 82) at_80 rfl rfl ?_
        refine g_ifY C (pc' := 106) at_82 rfl (by decide) (by decide) rfl ?_
        refine g_iconst C (pc' := 107) (v := (0 : Int32)) at_106 (by decide) rfl ?_
        refine g_newRE C (pc' := 110) (k' := 1) (n' := 0) (cap := 0) (ad := "[Lcom/example/strictwire/strictwire/Value;") (wd hw 12 rfl) (wd hw 13 rfl) (by decide) at_107 rfl (by decide) (by decide) (by decide) (by decide) (by decide) rfl rfl rfl (fun h481 b482 kA483 ex484 E485 A486 B488 Ov487 => ?_)
        have ge_b482 : n0 ≤ b482 := by rw [ex484]; exact O.1 ▸ O.2.1
        have f489 := O.ext E485
        refine g_astore C (pc' := 112) (Ls' := #[.val (.int p0), .val (.int p1), .val (.int p2), .val (.int p3), .val (.int (1 : Int32)), .val (.int (0 : Int32)), .val (.int (1 : Int32)), .val (.ref ty471), .val (.ref ty476), .val (.ref ty471), .val (.ref ty471), .val (.ref b482), .unset, .unset]) at_110 rfl rfl rfl rfl ?_
        refine g_iload C (pc' := 114) at_112 rfl rfl ?_
        refine g_ifN C (pc' := 117) at_114 rfl (by decide) rfl ?_
        refine g_aload C (pc' := 119) at_117 rfl rfl rfl ?_
        refine g_aload C (pc' := 121) at_119 rfl rfl rfl ?_
        refine g_callS C (pc' := 124) (k' := 2) (n' := 4) (argsL := [(.ref b482), (.ref ty471)]) (rest := []) (wd hw 101 rfl) (wd hw 102 rfl) (wd hw 88 rfl) (wd hw 103 rfl) (by decide) at_121 pd_9 rfl rfl rfl (ofE l Z a0 hw n0 h481 f489 s_BOOL s_I16 s_I32 s_BYTE s_DOUBLE s_I64 s_MAP s_STRUCT s_LIST s_SET s_STRING s_DEF H b482 ty471) (Nat.le_of_ble_eq_true rfl) (Nat.le_of_ble_eq_true rfl) (Nat.le_of_ble_eq_true rfl) (Nat.le_of_ble_eq_true rfl) rfl rfl rfl (fun v496 h495 q497 => ?_)
        obtain ⟨vl490, rfl, q491, q492, q493, q494⟩ := q497
        have ne_b482_vl490 : b482 ≠ vl490 := Nat.ne_of_lt (Nat.lt_of_lt_of_le A486.lt q491)
        have ge_vl490 : n0 ≤ vl490 := Nat.le_trans (f489.1 ▸ f489.2.1) q491
        have f498 := f489.keep q492 all0
        have f499 := A486.keep q492 nin0
        have f500 := B488.keep q492
        show G w _ h495 2 4 124 #[.val (.int p0), .val (.int p1), .val (.int p2), .val (.int p3), .val (.int (1 : Int32)), .val (.int (0 : Int32)), .val (.int (1 : Int32)), .val (.ref ty471), .val (.ref ty476), .val (.ref ty471), .val (.ref ty471), .val (.ref b482), .unset, .unset] [(.ref vl490)]
        refine g_astore C (pc' := 126) (Ls' := #[.val (.int p0), .val (.int p1), .val (.int p2), .val (.int p3), .val (.int (1 : Int32)), .val (.int (0 : Int32)), .val (.int (1 : Int32)), .val (.ref ty471), .val (.ref ty476), .val (.ref ty471), .val (.ref ty471), .val (.ref b482), .val (.ref vl490), .unset]) at_124 rfl rfl rfl rfl ?_
        refine g_goto C (pc' := 157) at_126 (by decide) rfl ?_
        refine g_iload C (pc' := 159) at_157 rfl rfl ?_
        refine g_ifN C (pc' := 162) at_159 rfl (by decide) rfl ?_
        refine g_aload C (pc' := 164) at_162 rfl rfl rfl ?_
        refine g_aload C (pc' := 166) at_164 rfl rfl rfl ?_
        refine g_acmp C (pc' := 169) (same := true) at_166 rfl rfl rfl (decide_eq_true rfl) (by decide) (by decide) ?_
        refine g_iconst C (pc' := 170) (v := (1 : Int32)) at_169 (by decide) rfl ?_
        refine g_goto C (pc' := 174) at_170 (by decide) rfl ?_
        refine g_istore C (pc' := 176) (Ls' := #[.val (.int p0), .val (.int p1), .val (.int p2), .val (.int p3), .val (.int (1 : Int32)), .val (.int (0 : Int32)), .val (.int (1 : Int32)), .val (.ref ty471), .val (.ref ty476), .val (.ref ty471), .val (.ref ty471), .val (.ref b482), .val (.ref vl490), .val (.int (1 : Int32))]) at_174 rfl rfl rfl ?_
        refine g_aload C (pc' := 178) at_176 rfl rfl rfl ?_
        refine g_aload C (pc' := 180) at_178 rfl rfl rfl ?_
        refine g_callS C (pc' := 183) (k' := 2) (n' := 4) (argsL := [(.ref vl490), (.ref ty471)]) (rest := []) (wd hw 86 rfl) (wd hw 87 rfl) (wd hw 88 rfl) (wd hw 89 rfl) (by decide) at_180 pd_8 rfl rfl rfl (ho_1 l Z a0 hw n0 h495 f498 s_BOOL s_I16 s_I32 s_BYTE s_DOUBLE s_I64 s_MAP s_STRUCT s_LIST s_SET s_STRING s_DEF H vl490 ty471 ty471 rfl q493 q494) (Nat.le_of_ble_eq_true rfl) (Nat.le_of_ble_eq_true rfl) (Nat.le_of_ble_eq_true rfl) (Nat.le_of_ble_eq_true rfl) rfl rfl rfl (fun v502 h501 q503 => ?_)
        obtain ⟨rfl, eh501⟩ := q503
        subst h501
        show G w _ h495 2 4 183 #[.val (.int p0), .val (.int p1), .val (.int p2), .val (.int p3), .val (.int (1 : Int32)), .val (.int (0 : Int32)), .val (.int (1 : Int32)), .val (.ref ty471), .val (.ref ty476), .val (.ref ty471), .val (.ref ty471), .val (.ref b482), .val (.ref vl490), .val (.int (1 : Int32))] [(.int (1 : Int32))]
        refine g_iload C (pc' := 185) at_183 rfl rfl ?_
        refine g_icN C (pc' := 188) at_185 rfl (by decide) rfl ?_
        refine g_iconst C (pc' := 189) (v := (1 : Int32)) at_188 (by decide) rfl ?_
        refine g_goto C (pc' := 193) at_189 (by decide) rfl ?_
        exact g_zreturn C at_193 rfl rfl (Nat.le_of_ble_eq_true rfl) (Nat.le_of_ble_eq_true rfl) (rfl)
    · replace hc433 : ¬ (p2 &&& (2 : Int32)) = (0 : Int32) := hc433
      refine g_iconst C (pc' := 20) (v := (1 : Int32)) at_19 (by decide) rfl ?_
      refine g_goto C (pc' := 24) at_20 (by decide) rfl ?_
      refine g_istore C (pc' := 26) (Ls' := #[.val (.int p0), .val (.int p1), .val (.int p2), .val (.int p3), .val (.int (1 : Int32)), .val (.int (1 : Int32)), .unset, .unset, .unset, .unset, .unset, .unset, .unset, .unset]) at_24 rfl rfl rfl ?_
      refine g_iloadN C (pc' := 27) at_26 rfl rfl ?_
      refine g_iconst C (pc' := 28) (v := (4 : Int32)) at_27 (by decide) rfl ?_
      refine g_iand C (pc' := 29) at_28 rfl rfl ?_
      refine g_ifB C (pcT := 36) (pc' := 32) at_29 rfl (by decide) rfl rfl (fun hc504 => ?_) (fun hc504 => ?_)
      · replace hc504 : (p2 &&& (4 : Int32)) = (0 : Int32) := hc504
        refine g_iconst C (pc' := 37) (v := (0 : Int32)) at_36 (by decide) rfl ?_
        refine g_istore C (pc' := 39) (Ls' := #[.val (.int p0), .val (.int p1), .val (.int p2), .val (.int p3), .val (.int (1 : Int32)), .val (.int (1 : Int32)), .val (.int (0 : Int32)), .unset, .unset, .unset, .unset, .unset, .unset, .unset]) at_37 rfl rfl rfl ?_
        refine g_iloadN C (pc' := 40) at_39 rfl rfl ?_
        refine g_callS C (pc' := 43) (k' := 0) (n' := 0) (argsL := [(.int p0)]) (rest := []) (wd hw 0 rfl) (wd hw 1 rfl) (wd hw 2 rfl) (wd hw 3 rfl) (by decide) at_40 pd_0 rfl rfl rfl (typeAt l Z a0 hw n0 h O s_BOOL s_I16 s_I32 s_BYTE s_DOUBLE s_I64 s_MAP s_STRUCT s_LIST s_SET s_STRING s_DEF H p0) (Nat.le_of_ble_eq_true rfl) (Nat.le_of_ble_eq_true rfl) (Nat.le_of_ble_eq_true rfl) (Nat.le_of_ble_eq_true rfl) rfl rfl rfl (fun v508 h507 q509 => ?_)
        obtain ⟨ty505, rfl, eq506⟩ := q509
        subst h507
        show G w _ h 0 0 43 #[.val (.int p0), .val (.int p1), .val (.int p2), .val (.int p3), .val (.int (1 : Int32)), .val (.int (1 : Int32)), .val (.int (0 : Int32)), .unset, .unset, .unset, .unset, .unset, .unset, .unset] [(.ref ty505)]
        refine g_astore C (pc' := 45) (Ls' := #[.val (.int p0), .val (.int p1), .val (.int p2), .val (.int p3), .val (.int (1 : Int32)), .val (.int (1 : Int32)), .val (.int (0 : Int32)), .val (.ref ty505), .unset, .unset, .unset, .unset, .unset, .unset]) at_43 rfl rfl rfl rfl ?_
        refine g_iloadN C (pc' := 46) at_45 rfl rfl ?_
        refine g_callS C (pc' := 49) (k' := 0) (n' := 0) (argsL := [(.int p1)]) (rest := []) (wd hw 0 rfl) (wd hw 1 rfl) (wd hw 2 rfl) (wd hw 3 rfl) (by decide) at_46 pd_0 rfl rfl rfl (typeAt l Z a0 hw n0 h O s_BOOL s_I16 s_I32 s_BYTE s_DOUBLE s_I64 s_MAP s_STRUCT s_LIST s_SET s_STRING s_DEF H p1) (Nat.le_of_ble_eq_true rfl) (Nat.le_of_ble_eq_true rfl) (Nat.le_of_ble_eq_true rfl) (Nat.le_of_ble_eq_true rfl) rfl rfl rfl (fun v513 h512 q514 => ?_)
        obtain ⟨ty510, rfl, eq511⟩ := q514
        subst h512
        show G w _ h 0 0 49 #[.val (.int p0), .val (.int p1), .val (.int p2), .val (.int p3), .val (.int (1 : Int32)), .val (.int (1 : Int32)), .val (.int (0 : Int32)), .val (.ref ty505), .unset, .unset, .unset, .unset, .unset, .unset] [(.ref ty510)]
        refine g_astore C (pc' := 51) (Ls' := #[.val (.int p0), .val (.int p1), .val (.int p2), .val (.int p3), .val (.int (1 : Int32)), .val (.int (1 : Int32)), .val (.int (0 : Int32)), .val (.ref ty505), .val (.ref ty510), .unset, .unset, .unset, .unset, .unset]) at_49 rfl rfl rfl rfl ?_
        refine g_iload C (pc' := 53) at_51 rfl rfl ?_
        refine g_ifN C (pc' := 56) at_53 rfl (by decide) rfl ?_
        refine g_getS C (pc' := 59) (wd hw 10 rfl) Via.refl at_56 (S_I32.ext O.2) rfl ?_
        refine g_goto C (pc' := 64) at_59 (by decide) rfl ?_
        refine g_astore C (pc' := 66) (Ls' := #[.val (.int p0), .val (.int p1), .val (.int p2), .val (.int p3), .val (.int (1 : Int32)), .val (.int (1 : Int32)), .val (.int (0 : Int32)), .val (.ref ty505), .val (.ref ty510), .val (.ref s_I32), .unset, .unset, .unset, .unset]) at_64 rfl rfl rfl rfl ?_
        refine g_iload C (pc' := 68) at_66 rfl rfl ?_
        refine g_ifY C (pc' := 76) at_68 rfl (by decide) (by decide) rfl ?_
        refine g_aload C (pc' := 78) at_76 rfl rfl rfl ?_
        refine g_astore C (pc' := 80) (Ls' := #[.val (.int p0), .val (.int p1), .val (.int p2), .val (.int p3), .val (.int (1 : Int32)), .val (.int (1 : Int32)), .val (.int (0 : Int32)), .val (.ref ty505), .val (.ref ty510), .val (.ref s_I32), .val (.ref ty510), .unset, .unset, .unset]) at_78 rfl rfl rfl rfl ?_
        refine g_iload C (pc' := 82) at_80 rfl rfl ?_
        refine g_ifN C (pc' := 85) at_82 rfl (by decide) rfl ?_
        refine g_iconst C (pc' := 86) (v := (1 : Int32)) at_85 (by decide) rfl ?_
        refine g_newRE C (pc' := 89) (k' := 1) (n' := 1) (cap := 1) (ad := "[Lcom/example/strictwire/strictwire/Value;") (wd hw 12 rfl) (wd hw 13 rfl) (by decide) at_86 rfl (by decide) (by decide) (by decide) (by decide) (by decide) rfl rfl rfl (fun h515 b516 kA517 ex518 E519 A520 B522 Ov521 => ?_)
        have ge_b516 : n0 ≤ b516 := by rw [ex518]; exact O.1 ▸ O.2.1
        have f523 := O.ext E519
        have A524 : Arv Z h515 b516 kA517 (.object "com/example/strictwire/strictwire/Value") (1 : Int32) [.null] .null := A520.pad (pad_rep [] .null 1)
        refine g_astore C (pc' := 91) (Ls' := #[.val (.int p0), .val (.int p1), .val (.int p2), .val (.int p3), .val (.int (1 : Int32)), .val (.int (1 : Int32)), .val (.int (0 : Int32)), .val (.ref ty505), .val (.ref ty510), .val (.ref s_I32), .val (.ref ty510), .val (.ref b516), .unset, .unset]) at_89 rfl rfl rfl rfl ?_
        refine g_aload C (pc' := 93) at_91 rfl rfl rfl ?_
        refine g_iconst C (pc' := 94) (v := (0 : Int32)) at_93 (by decide) rfl ?_
        refine g_new C (pc' := 97) (k' := 2) (n' := 2) (wd hw 14 rfl) (wd hw 15 rfl) (wd hw 16 rfl) at_94 (by decide) (by decide) rfl rfl rfl (fun h525 b526 ex527 E528 A529 D530 => ?_)
        have ne_b516_b526 : b516 ≠ b526 := Nat.ne_of_lt (by rw [ex527]; exact A524.lt)
        have ge_b526 : n0 ≤ b526 := by rw [ex527]; exact f523.1 ▸ f523.2.1
        have f531 := f523.ext E528
        have f532 := A524.ext E528
        have f533 := B522.ext E528
        have F_value_b526 : Fld Z h525 b526 "com/example/strictwire/strictwire/I32Value" "value" "I" (.int (0 : Int32)) := D530 (Or.inr (wd hw 29 rfl)) (ty := .int) (by decide)
        refine g_dup C (pc' := 98) at_97 rfl rfl rfl ?_
        refine g_iloadN C (pc' := 99) at_98 rfl rfl ?_
        refine g_special C (pc' := 102) (k' := 2) (n' := 2) (argsL := [(.int p3)]) (rest := [(.ref b526), (.int (0 : Int32)), (.ref b516)]) (wd hw 17 rfl) (wd hw 18 rfl) (wd hw 16 rfl) (wd hw 19 rfl) (by decide) rfl at_99 pd_1 rfl rfl rfl (ivI l Z a0 hw n0 h525 f531 s_BOOL s_I16 s_I32 s_BYTE s_DOUBLE s_I64 s_MAP s_STRUCT s_LIST s_SET s_STRING s_DEF H b526 p3 ge_b526 A529 F_value_b526) (Nat.le_of_ble_eq_true rfl) (Nat.le_of_ble_eq_true rfl) (Nat.le_of_ble_eq_true rfl) (Nat.le_of_ble_eq_true rfl) rfl rfl rfl (fun v536 h535 q537 => ?_)
        obtain ⟨rfl, K534⟩ := q537
        have f538 := f531.keep K534 (allS ge_b526 all0)
        have f539 := f532.keep K534 (ninS ne_b516_b526 nin0)
        have f540 := f533.keep K534
        have f541 := A529.keep K534
        show G w _ h535 2 2 102 #[.val (.int p0), .val (.int p1), .val (.int p2), .val (.int p3), .val (.int (1 : Int32)), .val (.int (1 : Int32)), .val (.int (0 : Int32)), .val (.ref ty505), .val (.ref ty510), .val (.ref s_I32), .val (.ref ty510), .val (.ref b516), .unset, .unset] [(.ref b526), (.int (0 : Int32)), (.ref b516)]
        refine g_aastore C (pc' := 103) at_102 rfl f539 rfl (stoR f539 Ov521 (Ins.of_exa f541 (wd hw 30 rfl))) (by decide) (by decide) ge_b516 rfl (fun h542 W543 => ?_)
        have f544 := f538.wr W543 ge_b516
        have f545 := (arv_put f539 rfl W543 (i := 0) rfl (Nat.le_of_ble_eq_true rfl) : Arv Z h542 b516 kA517 (.object "com/example/strictwire/strictwire/Value") (1 : Int32) [(.ref b526)] .null)
        have f546 := f540.wr W543
        have f547 := f541.wr W543
        refine g_goto C (pc' := 112) at_103 (by decide) rfl ?_
        refine g_iload C (pc' := 114) at_112 rfl rfl ?_
        refine g_ifN C (pc' := 117) at_114 rfl (by decide) rfl ?_
        refine g_aload C (pc' := 119) at_117 rfl rfl rfl ?_
        refine g_aload C (pc' := 121) at_119 rfl rfl rfl ?_
        refine g_callS C (pc' := 124) (k' := 3) (n' := 6) (argsL := [(.ref b516), (.ref s_I32)]) (rest := []) (wd hw 101 rfl) (wd hw 102 rfl) (wd hw 88 rfl) (wd hw 103 rfl) (by decide) at_121 pd_9 rfl rfl rfl (ofE l Z a0 hw n0 h542 f544 s_BOOL s_I16 s_I32 s_BYTE s_DOUBLE s_I64 s_MAP s_STRUCT s_LIST s_SET s_STRING s_DEF H b516 s_I32) (Nat.le_of_ble_eq_true rfl) (Nat.le_of_ble_eq_true rfl) (Nat.le_of_ble_eq_true rfl) (Nat.le_of_ble_eq_true rfl) rfl rfl rfl (fun v554 h553 q555 => ?_)
        obtain ⟨vl548, rfl, q549, q550, q551, q552⟩ := q555
        have ne_b516_vl548 : b516 ≠ vl548 := Nat.ne_of_lt (Nat.lt_of_lt_of_le f545.lt q549)
        have ne_b526_vl548 : b526 ≠ vl548 := Nat.ne_of_lt (Nat.lt_of_lt_of_le f547.lt q549)
        have ge_vl548 : n0 ≤ vl548 := Nat.le_trans (f544.1 ▸ f544.2.1) q549
        have f556 := f544.keep q550 all0
        have f557 := f545.keep q550 nin0
        have f558 := f546.keep q550
        have f559 := f547.keep q550
        show G w _ h553 3 6 124 #[.val (.int p0), .val (.int p1), .val (.int p2), .val (.int p3), .val (.int (1 : Int32)), .val (.int (1 : Int32)), .val (.int (0 : Int32)), .val (.ref ty505), .val (.ref ty510), .val (.ref s_I32), .val (.ref ty510), .val (.ref b516), .unset, .unset] [(.ref vl548)]
        refine g_astore C (pc' := 126) (Ls' := #[.val (.int p0), .val (.int p1), .val (.int p2), .val (.int p3), .val (.int (1 : Int32)), .val (.int (1 : Int32)), .val (.int (0 : Int32)), .val (.ref ty505), .val (.ref ty510), .val (.ref s_I32), .val (.ref ty510), .val (.ref b516), .val (.ref vl548), .unset]) at_124 rfl rfl rfl rfl ?_
        refine g_goto C (pc' := 157) at_126 (by decide) rfl ?_
        by_cases hsm : s_I32 = ty510
        · refine g_iload C (pc' := 159) at_157 rfl rfl ?_
          refine g_ifN C (pc' := 162) at_159 rfl (by decide) rfl ?_
          refine g_aload C (pc' := 164) at_162 rfl rfl rfl ?_
          refine g_aload C (pc' := 166) at_164 rfl rfl rfl ?_
          refine g_acmp C (pc' := 169) (same := true) at_166 rfl rfl rfl (decide_eq_true (congrArg Value.ref hsm)) (by decide) (by decide) ?_
          refine g_iconst C (pc' := 170) (v := (1 : Int32)) at_169 (by decide) rfl ?_
          refine g_goto C (pc' := 174) at_170 (by decide) rfl ?_
          refine g_istore C (pc' := 176) (Ls' := #[.val (.int p0), .val (.int p1), .val (.int p2), .val (.int p3), .val (.int (1 : Int32)), .val (.int (1 : Int32)), .val (.int (0 : Int32)), .val (.ref ty505), .val (.ref ty510), .val (.ref s_I32), .val (.ref ty510), .val (.ref b516), .val (.ref vl548), .val (.int (1 : Int32))]) at_174 rfl rfl rfl ?_
          refine g_aload C (pc' := 178) at_176 rfl rfl rfl ?_
          refine g_aload C (pc' := 180) at_178 rfl rfl rfl ?_
          refine g_callS C (pc' := 183) (k' := 3) (n' := 6) (argsL := [(.ref vl548), (.ref ty510)]) (rest := []) (wd hw 86 rfl) (wd hw 87 rfl) (wd hw 88 rfl) (wd hw 89 rfl) (by decide) at_180 pd_8 rfl rfl rfl (ho_1 l Z a0 hw n0 h553 f556 s_BOOL s_I16 s_I32 s_BYTE s_DOUBLE s_I64 s_MAP s_STRUCT s_LIST s_SET s_STRING s_DEF H vl548 ty510 s_I32 hsm q551 q552) (Nat.le_of_ble_eq_true rfl) (Nat.le_of_ble_eq_true rfl) (Nat.le_of_ble_eq_true rfl) (Nat.le_of_ble_eq_true rfl) rfl rfl rfl (fun v561 h560 q562 => ?_)
          obtain ⟨rfl, eh560⟩ := q562
          subst h560
          show G w _ h553 3 6 183 #[.val (.int p0), .val (.int p1), .val (.int p2), .val (.int p3), .val (.int (1 : Int32)), .val (.int (1 : Int32)), .val (.int (0 : Int32)), .val (.ref ty505), .val (.ref ty510), .val (.ref s_I32), .val (.ref ty510), .val (.ref b516), .val (.ref vl548), .val (.int (1 : Int32))] [(.int (1 : Int32))]
          refine g_iload C (pc' := 185) at_183 rfl rfl ?_
          refine g_icN C (pc' := 188) at_185 rfl (by decide) rfl ?_
          refine g_iconst C (pc' := 189) (v := (1 : Int32)) at_188 (by decide) rfl ?_
          refine g_goto C (pc' := 193) at_189 (by decide) rfl ?_
          exact g_zreturn C at_193 rfl rfl (Nat.le_of_ble_eq_true rfl) (Nat.le_of_ble_eq_true rfl) (rfl)
        · refine g_iload C (pc' := 159) at_157 rfl rfl ?_
          refine g_ifN C (pc' := 162) at_159 rfl (by decide) rfl ?_
          refine g_aload C (pc' := 164) at_162 rfl rfl rfl ?_
          refine g_aload C (pc' := 166) at_164 rfl rfl rfl ?_
          refine g_acmp C (pc' := 173) (same := false) at_166 rfl rfl rfl (decide_eq_false fun e => hsm (Value.ref.inj e)) (by decide) (by decide) ?_
          refine g_iconst C (pc' := 174) (v := (0 : Int32)) at_173 (by decide) rfl ?_
          refine g_istore C (pc' := 176) (Ls' := #[.val (.int p0), .val (.int p1), .val (.int p2), .val (.int p3), .val (.int (1 : Int32)), .val (.int (1 : Int32)), .val (.int (0 : Int32)), .val (.ref ty505), .val (.ref ty510), .val (.ref s_I32), .val (.ref ty510), .val (.ref b516), .val (.ref vl548), .val (.int (0 : Int32))]) at_174 rfl rfl rfl ?_
          refine g_aload C (pc' := 178) at_176 rfl rfl rfl ?_
          refine g_aload C (pc' := 180) at_178 rfl rfl rfl ?_
          refine g_callS C (pc' := 183) (k' := 3) (n' := 6) (argsL := [(.ref vl548), (.ref ty510)]) (rest := []) (wd hw 86 rfl) (wd hw 87 rfl) (wd hw 88 rfl) (wd hw 89 rfl) (by decide) at_180 pd_8 rfl rfl rfl (ho_0 l Z a0 hw n0 h553 f556 s_BOOL s_I16 s_I32 s_BYTE s_DOUBLE s_I64 s_MAP s_STRUCT s_LIST s_SET s_STRING s_DEF H vl548 ty510 s_I32 hsm q551 q552) (Nat.le_of_ble_eq_true rfl) (Nat.le_of_ble_eq_true rfl) (Nat.le_of_ble_eq_true rfl) (Nat.le_of_ble_eq_true rfl) rfl rfl rfl (fun v564 h563 q565 => ?_)
          obtain ⟨rfl, eh563⟩ := q565
          subst h563
          show G w _ h553 3 6 183 #[.val (.int p0), .val (.int p1), .val (.int p2), .val (.int p3), .val (.int (1 : Int32)), .val (.int (1 : Int32)), .val (.int (0 : Int32)), .val (.ref ty505), .val (.ref ty510), .val (.ref s_I32), .val (.ref ty510), .val (.ref b516), .val (.ref vl548), .val (.int (0 : Int32))] [(.int (0 : Int32))]
          refine g_iload C (pc' := 185) at_183 rfl rfl ?_
          refine g_icN C (pc' := 188) at_185 rfl (by decide) rfl ?_
          refine g_iconst C (pc' := 189) (v := (1 : Int32)) at_188 (by decide) rfl ?_
          refine g_goto C (pc' := 193) at_189 (by decide) rfl ?_
          exact g_zreturn C at_193 rfl rfl (Nat.le_of_ble_eq_true rfl) (Nat.le_of_ble_eq_true rfl) (rfl)
      · replace hc504 : ¬ (p2 &&& (4 : Int32)) = (0 : Int32) := hc504
        refine g_iconst C (pc' := 33) (v := (1 : Int32)) at_32 (by decide) rfl ?_
        refine g_goto C (pc' := 37) at_33 (by decide) rfl ?_
        refine g_istore C (pc' := 39) (Ls' := #[.val (.int p0), .val (.int p1), .val (.int p2), .val (.int p3), .val (.int (1 : Int32)), .val (.int (1 : Int32)), .val (.int (1 : Int32)), .unset, .unset, .unset, .unset, .unset, .unset, .unset]) at_37 rfl rfl rfl ?_
        refine g_iloadN C (pc' := 40) at_39 rfl rfl ?_
        refine g_callS C (pc' := 43) (k' := 0) (n' := 0) (argsL := [(.int p0)]) (rest := []) (wd hw 0 rfl) (wd hw 1 rfl) (wd hw 2 rfl) (wd hw 3 rfl) (by decide) at_40 pd_0 rfl rfl rfl (typeAt l Z a0 hw n0 h O s_BOOL s_I16 s_I32 s_BYTE s_DOUBLE s_I64 s_MAP s_STRUCT s_LIST s_SET s_STRING s_DEF H p0) (Nat.le_of_ble_eq_true rfl) (Nat.le_of_ble_eq_true rfl) (Nat.le_of_ble_eq_true rfl) (Nat.le_of_ble_eq_true rfl) rfl rfl rfl (fun v569 h568 q570 => ?_)
        obtain ⟨ty566, rfl, eq567⟩ := q570
        subst h568
        show G w _ h 0 0 43 #[.val (.int p0), .val (.int p1), .val (.int p2), .val (.int p3), .val (.int (1 : Int32)), .val (.int (1 : Int32)), .val (.int (1 : Int32)), .unset, .unset, .unset, .unset, .unset, .unset, .unset] [(.ref ty566)]
        refine g_astore C (pc' := 45) (Ls' := #[.val (.int p0), .val (.int p1), .val (.int p2), .val (.int p3), .val (.int (1 : Int32)), .val (.int (1 : Int32)), .val (.int (1 : Int32)), .val (.ref ty566), .unset, .unset, .unset, .unset, .unset, .unset]) at_43 rfl rfl rfl rfl ?_
        refine g_iloadN C (pc' := 46) at_45 rfl rfl ?_
        refine g_callS C (pc' := 49) (k' := 0) (n' := 0) (argsL := [(.int p1)]) (rest := []) (wd hw 0 rfl) (wd hw 1 rfl) (wd hw 2 rfl) (wd hw 3 rfl) (by decide) at_46 pd_0 rfl rfl rfl (typeAt l Z a0 hw n0 h O s_BOOL s_I16 s_I32 s_BYTE s_DOUBLE s_I64 s_MAP s_STRUCT s_LIST s_SET s_STRING s_DEF H p1) (Nat.le_of_ble_eq_true rfl) (Nat.le_of_ble_eq_true rfl) (Nat.le_of_ble_eq_true rfl) (Nat.le_of_ble_eq_true rfl) rfl rfl rfl (fun v574 h573 q575 => ?_)
        obtain ⟨ty571, rfl, eq572⟩ := q575
        subst h573
        show G w _ h 0 0 49 #[.val (.int p0), .val (.int p1), .val (.int p2), .val (.int p3), .val (.int (1 : Int32)), .val (.int (1 : Int32)), .val (.int (1 : Int32)), .val (.ref ty566), .unset, .unset, .unset, .unset, .unset, .unset] [(.ref ty571)]
        refine g_astore C (pc' := 51) (Ls' := #[.val (.int p0), .val (.int p1), .val (.int p2), .val (.int p3), .val (.int (1 : Int32)), .val (.int (1 : Int32)), .val (.int (1 : Int32)), .val (.ref ty566), .val (.ref ty571), .unset, .unset, .unset, .unset, .unset]) at_49 rfl rfl rfl rfl ?_
        refine g_iload C (pc' := 53) at_51 rfl rfl ?_
        refine g_ifN C (pc' := 56) at_53 rfl (by decide) rfl ?_
        refine g_getS C (pc' := 59) (wd hw 10 rfl) Via.refl at_56 (S_I32.ext O.2) rfl ?_
        refine g_goto C (pc' := 64) at_59 (by decide) rfl ?_
        refine g_astore C (pc' := 66) (Ls' := #[.val (.int p0), .val (.int p1), .val (.int p2), .val (.int p3), .val (.int (1 : Int32)), .val (.int (1 : Int32)), .val (.int (1 : Int32)), .val (.ref ty566), .val (.ref ty571), .val (.ref s_I32), .unset, .unset, .unset, .unset]) at_64 rfl rfl rfl rfl ?_
        refine g_iload C (pc' := 68) at_66 rfl rfl ?_
        refine g_ifN C (pc' := 71) at_68 rfl (by decide) rfl ?_
        refine g_aload C (pc' := 73) at_71 rfl rfl rfl ?_
        refine g_goto C (pc' := 78) at_73 (by decide) rfl ?_
        refine g_astore C (pc' := 80) (Ls' := #[.val (.int p0), .val (.int p1), .val (.int p2), .val (.int p3), .val (.int (1 : Int32)), .val (.int (1 : Int32)), .val (.int (1 : Int32)), .val (.ref ty566), .val (.ref ty571), .val (.ref s_I32), .val (.ref s_I32), .unset, .unset, .unset]) at_78 rfl rfl rfl rfl ?_
        refine g_iload C (pc' := 82) at_80 rfl rfl ?_
        refine g_ifN C (pc' := 85) at_82 rfl (by decide) rfl ?_
        refine g_iconst C (pc' := 86) (v := (1 : Int32)) at_85 (by decide) rfl ?_
        refine g_newRE C (pc' := 89) (k' := 1) (n' := 1) (cap := 1) (ad := "[Lcom/example/strictwire/strictwire/Value;") (wd hw 12 rfl) (wd hw 13 rfl) (by decide) at_86 rfl (by decide) (by decide) (by decide) (by decide) (by decide) rfl rfl rfl (fun h576 b577 kA578 ex579 E580 A581 B583 Ov582 => ?_)
        have ge_b577 : n0 ≤ b577 := by rw [ex579]; exact O.1 ▸ O.2.1
        have f584 := O.ext E580
        have A585 : Arv Z h576 b577 kA578 (.object "com/example/strictwire/strictwire/Value") (1 : Int32) [.null] .null := A581.pad (pad_rep [] .null 1)
        refine g_astore C (pc' := 91) (Ls' := #[.val (.int p0), .val (.int p1), .val (.int p2), .val (.int p3), .val (.int (1 : Int32)), .val (.int (1 : Int32)), .val (.int (1 : Int32)), .val (.ref ty566), .val (.ref ty571), .val (.ref s_I32), .val (.ref s_I32), .val (.ref b577), .unset, .unset]) at_89 rfl rfl rfl rfl ?_
        refine g_aload C (pc' := 93) at_91 rfl rfl rfl ?_
        refine g_iconst C (pc' := 94) (v := (0 : Int32)) at_93 (by decide) rfl ?_
        refine g_new C (pc' := 97) (k' := 2) (n' := 2) (wd hw 14 rfl) (wd hw 15 rfl) (wd hw 16 rfl) at_94 (by decide) (by decide) rfl rfl rfl (fun h586 b587 ex588 E589 A590 D591 => ?_)
        have ne_b577_b587 : b577 ≠ b587 := Nat.ne_of_lt (by rw [ex588]; exact A585.lt)
        have ge_b587 : n0 ≤ b587 := by rw [ex588]; exact f584.1 ▸ f584.2.1
        have f592 := f584.ext E589
        have f593 := A585.ext E589
        have f594 := B583.ext E589
        have F_value_b587 : Fld Z h586 b587 "com/example/strictwire/strictwire/I32Value" "value" "I" (.int (0 : Int32)) := D591 (Or.inr (wd hw 29 rfl)) (ty := .int) (by decide)
        refine g_dup C (pc' := 98) at_97 rfl rfl rfl ?_
        refine g_iloadN C (pc' := 99) at_98 rfl rfl ?_
        refine g_special C (pc' := 102) (k' := 2) (n' := 2) (argsL := [(.int p3)]) (rest := [(.ref b587), (.int (0 : Int32)), (.ref b577)]) (wd hw 17 rfl) (wd hw 18 rfl) (wd hw 16 rfl) (wd hw 19 rfl) (by decide) rfl at_99 pd_1 rfl rfl rfl (ivI l Z a0 hw n0 h586 f592 s_BOOL s_I16 s_I32 s_BYTE s_DOUBLE s_I64 s_MAP s_STRUCT s_LIST s_SET s_STRING s_DEF H b587 p3 ge_b587 A590 F_value_b587) (Nat.le_of_ble_eq_true rfl) (Nat.le_of_ble_eq_true rfl) (Nat.le_of_ble_eq_true rfl) (Nat.le_of_ble_eq_true rfl) rfl rfl rfl (fun v597 h596 q598 => ?_)
        obtain ⟨rfl, K595⟩ := q598
        have f599 := f592.keep K595 (allS ge_b587 all0)
        have f600 := f593.keep K595 (ninS ne_b577_b587 nin0)
        have f601 := f594.keep K595
        have f602 := A590.keep K595
        show G w _ h596 2 2 102 #[.val (.int p0), .val (.int p1), .val (.int p2), .val (.int p3), .val (.int (1 : Int32)), .val (.int (1 : Int32)), .val (.int (1 : Int32)), .val (.ref ty566), .val (.ref ty571), .val (.ref s_I32), .val (.ref s_I32), .val (.ref b577), .unset, .unset] [(.ref b587), (.int (0 : Int32)), (.ref b577)]
        refine g_aastore C (pc' := 103) at_102 rfl f600 rfl (stoR f600 Ov582 (Ins.of_exa f602 (wd hw 30 rfl))) (by decide) (by decide) ge_b577 rfl (fun h603 W604 => ?_)
        have f605 := f599.wr W604 ge_b577
        have f606 := (arv_put f600 rfl W604 (i := 0) rfl (Nat.le_of_ble_eq_true rfl) : Arv Z h603 b577 kA578 (.object "com/example/strictwire/strictwire/Value") (1 : Int32) [(.ref b587)] .null)
        have f607 := f601.wr W604
        have f608 := f602.wr W604
        refine g_goto C (pc' := 112) at_103 (by decide) rfl ?_
        refine g_iload C (pc' := 114) at_112 rfl rfl ?_
        refine g_ifN C (pc' := 117) at_114 rfl (by decide) rfl ?_
        refine g_aload C (pc' := 119) at_117 rfl rfl rfl ?_
        refine g_aload C (pc' := 121) at_119 rfl rfl rfl ?_
        refine g_callS C (pc' := 124) (k' := 3) (n' := 6) (argsL := [(.ref b577), (.ref s_I32)]) (rest := []) (wd hw 101 rfl) (wd hw 102 rfl) (wd hw 88 rfl) (wd hw 103 rfl) (by decide) at_121 pd_9 rfl rfl rfl (ofE l Z a0 hw n0 h603 f605 s_BOOL s_I16 s_I32 s_BYTE s_DOUBLE s_I64 s_MAP s_STRUCT s_LIST s_SET s_STRING s_DEF H b577 s_I32) (Nat.le_of_ble_eq_true rfl) (Nat.le_of_ble_eq_true rfl) (Nat.le_of_ble_eq_true rfl) (Nat.le_of_ble_eq_true rfl) rfl rfl rfl (fun v615 h614 q616 => ?_)
        obtain ⟨vl609, rfl, q610, q611, q612, q613⟩ := q616
        have ne_b577_vl609 : b577 ≠ vl609 := Nat.ne_of_lt (Nat.lt_of_lt_of_le f606.lt q610)
        have ne_b587_vl609 : b587 ≠ vl609 := Nat.ne_of_lt (Nat.lt_of_lt_of_le f608.lt q610)
        have ge_vl609 : n0 ≤ vl609 := Nat.le_trans (f605.1 ▸ f605.2.1) q610
        have f617 := f605.keep q611 all0
        have f618 := f606.keep q611 nin0
        have f619 := f607.keep q611
        have f620 := f608.keep q611
        show G w _ h614 3 6 124 #[.val (.int p0), .val (.int p1), .val (.int p2), .val (.int p3), .val (.int (1 : Int32)), .val (.int (1 : Int32)), .val (.int (1 : Int32)), .val (.ref ty566), .val (.ref ty571), .val (.ref s_I32), .val (.ref s_I32), .val (.ref b577), .unset, .unset] [(.ref vl609)]
        refine g_astore C (pc' := 126) (Ls' := #[.val (.int p0), .val (.int p1), .val (.int p2), .val (.int p3), .val (.int (1 : Int32)), .val (.int (1 : Int32)), .val (.int (1 : Int32)), .val (.ref ty566), .val (.ref ty571), .val (.ref s_I32), .val (.ref s_I32), .val (.ref b577), .val (.ref vl609), .unset]) at_124 rfl rfl rfl rfl ?_
        refine g_goto C (pc' := 157) at_126 (by decide) rfl ?_
        refine g_iload C (pc' := 159) at_157 rfl rfl ?_
        refine g_ifN C (pc' := 162) at_159 rfl (by decide) rfl ?_
        refine g_aload C (pc' := 164) at_162 rfl rfl rfl ?_
        refine g_aload C (pc' := 166) at_164 rfl rfl rfl ?_
        refine g_acmp C (pc' := 169) (same := true) at_166 rfl rfl rfl (decide_eq_true rfl) (by decide) (by decide) ?_
        refine g_iconst C (pc' := 170) (v := (1 : Int32)) at_169 (by decide) rfl ?_
        refine g_goto C (pc' := 174) at_170 (by decide) rfl ?_
        refine g_istore C (pc' := 176) (Ls' := #[.val (.int p0), .val (.int p1), .val (.int p2), .val (.int p3), .val (.int (1 : Int32)), .val (.int (1 : Int32)), .val (.int (1 : Int32)), .val (.ref ty566), .val (.ref ty571), .val (.ref s_I32), .val (.ref s_I32), .val (.ref b577), .val (.ref vl609), .val (.int (1 : Int32))]) at_174 rfl rfl rfl ?_
        refine g_aload C (pc' := 178) at_176 rfl rfl rfl ?_
        refine g_aload C (pc' := 180) at_178 rfl rfl rfl ?_
        refine g_callS C (pc' := 183) (k' := 3) (n' := 6) (argsL := [(.ref vl609), (.ref s_I32)]) (rest := []) (wd hw 86 rfl) (wd hw 87 rfl) (wd hw 88 rfl) (wd hw 89 rfl) (by decide) at_180 pd_8 rfl rfl rfl (ho_1 l Z a0 hw n0 h614 f617 s_BOOL s_I16 s_I32 s_BYTE s_DOUBLE s_I64 s_MAP s_STRUCT s_LIST s_SET s_STRING s_DEF H vl609 s_I32 s_I32 rfl q612 q613) (Nat.le_of_ble_eq_true rfl) (Nat.le_of_ble_eq_true rfl) (Nat.le_of_ble_eq_true rfl) (Nat.le_of_ble_eq_true rfl) rfl rfl rfl (fun v622 h621 q623 => ?_)
        obtain ⟨rfl, eh621⟩ := q623
        subst h621
        show G w _ h614 3 6 183 #[.val (.int p0), .val (.int p1), .val (.int p2), .val (.int p3), .val (.int (1 : Int32)), .val (.int (1 : Int32)), .val (.int (1 : Int32)), .val (.ref ty566), .val (.ref ty571), .val (.ref s_I32), .val (.ref s_I32), .val (.ref b577), .val (.ref vl609), .val (.int (1 : Int32))] [(.int (1 : Int32))]
        refine g_iload C (pc' := 185) at_183 rfl rfl ?_
        refine g_icN C (pc' := 188) at_185 rfl (by decide) rfl ?_
        refine g_iconst C (pc' := 189) (v := (1 : Int32)) at_188 (by decide) rfl ?_
        refine g_goto C (pc' := 193) at_189 (by decide) rfl ?_
        exact g_zreturn C at_193 rfl rfl (Nat.le_of_ble_eq_true rfl) (Nat.le_of_ble_eq_true rfl) (rfl)
set_option maxRecDepth 65536 in
set_option maxHeartbeats 40000000 in
theorem comes_1 {Post : Tables → Env → Array Value → State → Outcome → State → Prop} (hpost : ∀ tb e args s v u, (limb_1_1.after args s (.returned v) u = true ∧ limb_1_2.after args s (.returned v) u = true ∧ True) → FrameEnd s (.returned v) u (Jvm.fieldLocs frame_1_writes args s ++ Jvm.arrayLocs frame_1_arrays args s ++ Jvm.staticLocs frame_1_statics s) 16 128 → Post tb e args s (.returned v) u) :
    ArmFor flags0 classFile x code maxLocals ret World_1 tables_1 room_1 Calls_1 rest_1 Pre_1 Post := by
  intro l hfl _ _ p e ha hc hk s m args below hf hA hF happ hP
  obtain ⟨hcalls, hrest, hpre⟩ := hP
  obtain ⟨-, -, -, hnamed, -, -, -, hat⟩ := (Spec.applies_iff hf).mp happ
  obtain ⟨hg, hn⟩ := and_e (Cond.before_iff.mp (show (Jvm.Cond.and given_1 narrow_1).before args s = true from hpre))
  obtain ⟨hga, hgb⟩ := and_e hg
  obtain ⟨hgba, hgbb⟩ := and_e hgb
  obtain ⟨hgbba, hgbbb⟩ := and_e hgbb
  obtain ⟨hgbbba, hgbbbb⟩ := and_e hgbbb
  obtain ⟨w0, w1, w2, w3, rfl⟩ : ∃ w0 w1 w2 w3 : Value, args = #[w0, w1, w2, w3] := by
    have hs : args.size = 4 := by simpa [Cond.value, given_1] using hga
    obtain ⟨L⟩ := args
    match L, hs with
    | [w0, w1, w2, w3], _ => exact ⟨w0, w1, w2, w3, rfl⟩
  have hw := fun d (hd : d ∈ tables_1) => atoms_spec (ws := Jvm.Cond.code x code maxLocals ret :: tables_1) hat d (List.mem_cons_of_mem _ hd)
  have hfit : Fit s := fun {y c} hc i hi => by
    obtain ⟨ha, rfl⟩ := Array.getElem?_eq_some_iff.mp hc
    have q := List.all_eq_true.mp ((Array.all_eq_true_iff_forall_mem.mp hF) _ (Array.getElem_mem ha)) i (List.mem_range.mpr hi)
    simpa [Array.getElem?_eq_getElem hi] using q
  obtain ⟨hsets, hown0⟩ := atoms_of _ (rest_1_c_eq ▸ (show rest_1_c.before _ s = true from hrest))
  obtain ⟨i0, ei0⟩ := is_v hgba
  obtain rfl : w0 = (.int i0) := Option.some.inj ei0
  obtain ⟨i1, ei1⟩ := is_v hgbba
  obtain rfl : w1 = (.int i1) := Option.some.inj ei1
  obtain ⟨i2, ei2⟩ := is_v hgbbba
  obtain rfl : w2 = (.int i2) := Option.some.inj ei2
  obtain ⟨i3, ei3⟩ := is_v hgbbbb
  obtain rfl : w3 = (.int i3) := Option.some.inj ei3
  obtain ⟨hna, hnb⟩ := and_e hn
  obtain ⟨hnba, hnbb⟩ := and_e hnb
  obtain ⟨hnbba, hnbbb⟩ := and_e hnbb
  obtain ⟨hnbbba, hnbbbb⟩ := and_e hnbbb
  obtain ⟨hnbbbba, hnbbbbb⟩ := and_e hnbbbb
  obtain ⟨hnbbbbba, hnbbbbbb⟩ := and_e hnbbbbb
  obtain ⟨hnbbbbbba, hnbbbbbbb⟩ := and_e hnbbbbbb
  obtain ⟨hnbbbbbbba, hnbbbbbbbb⟩ := and_e hnbbbbbbb
  obtain ⟨hnbbbbbbbba, hnbbbbbbbbb⟩ := and_e hnbbbbbbbb
  obtain ⟨hnbbbbbbbbba, hnbbbbbbbbbb⟩ := and_e hnbbbbbbbbb
  obtain ⟨hnbbbbbbbbbba, hnbbbbbbbbbbb⟩ := and_e hnbbbbbbbbbb
  obtain ⟨hnbbbbbbbbbbba, hnbbbbbbbbbbbb⟩ := and_e hnbbbbbbbbbbb
  obtain ⟨hnbbbbbbbbbbbba, hnbbbbbbbbbbbbb⟩ := and_e hnbbbbbbbbbbbb
  obtain ⟨hnbbbbbbbbbbbbba, hnbbbbbbbbbbbbbb⟩ := and_e hnbbbbbbbbbbbbb
  obtain ⟨hnbbbbbbbbbbbbbba, hnbbbbbbbbbbbbbbb⟩ := and_e hnbbbbbbbbbbbbbb
  obtain ⟨hnbbbbbbbbbbbbbbba, hnbbbbbbbbbbbbbbbb⟩ := and_e hnbbbbbbbbbbbbbbb
  obtain ⟨hnbbbbbbbbbbbbbbbba, hnbbbbbbbbbbbbbbbbb⟩ := and_e hnbbbbbbbbbbbbbbbb
  obtain ⟨hnbbbbbbbbbbbbbbbbba, hnbbbbbbbbbbbbbbbbbb⟩ := and_e hnbbbbbbbbbbbbbbbbb
  obtain ⟨hnbbbbbbbbbbbbbbbbbba, hnbbbbbbbbbbbbbbbbbbb⟩ := and_e hnbbbbbbbbbbbbbbbbbb
  obtain ⟨hnbbbbbbbbbbbbbbbbbbba, hnbbbbbbbbbbbbbbbbbbbb⟩ := and_e hnbbbbbbbbbbbbbbbbbbb
  obtain ⟨hnbbbbbbbbbbbbbbbbbbbba, hnbbbbbbbbbbbbbbbbbbbbb⟩ := and_e hnbbbbbbbbbbbbbbbbbbbb
  obtain ⟨s_BOOL, ev_BOOL⟩ := exa_v hna
  have S_BOOL := Sta.start ev_BOOL (Or.inr ⟨(wd hw 6 rfl), (wd hw 7 rfl)⟩)
  have E_BOOL := Exa.start ev_BOOL hna
  obtain ⟨s_I16, ev_I16⟩ := exa_v hnba
  have S_I16 := Sta.start ev_I16 (Or.inr ⟨(wd hw 6 rfl), (wd hw 9 rfl)⟩)
  have E_I16 := Exa.start ev_I16 hnba
  obtain ⟨s_I32, ev_I32⟩ := exa_v hnbba
  have S_I32 := Sta.start ev_I32 (Or.inr ⟨(wd hw 6 rfl), (wd hw 11 rfl)⟩)
  have E_I32 := Exa.start ev_I32 hnbba
  obtain ⟨s_BYTE, ev_BYTE⟩ := exa_v hnbbba
  have S_BYTE := Sta.start ev_BYTE (Or.inr ⟨(wd hw 6 rfl), (wd hw 96 rfl)⟩)
  have E_BYTE := Exa.start ev_BYTE hnbbba
  obtain ⟨s_DOUBLE, ev_DOUBLE⟩ := exa_v hnbbbba
  have S_DOUBLE := Sta.start ev_DOUBLE (Or.inr ⟨(wd hw 6 rfl), (wd hw 98 rfl)⟩)
  have E_DOUBLE := Exa.start ev_DOUBLE hnbbbba
  obtain ⟨s_I64, ev_I64⟩ := exa_v hnbbbbba
  have S_I64 := Sta.start ev_I64 (Or.inr ⟨(wd hw 6 rfl), (wd hw 100 rfl)⟩)
  have E_I64 := Exa.start ev_I64 hnbbbbba
  obtain ⟨s_MAP, ev_MAP⟩ := exa_v hnbbbbbbbba
  have S_MAP := Sta.start ev_MAP (Or.inr ⟨(wd hw 6 rfl), (wd hw 119 rfl)⟩)
  have E_MAP := Exa.start ev_MAP hnbbbbbbbba
  obtain ⟨s_STRUCT, ev_STRUCT⟩ := exa_v hnbbbbbbbbbbbbba
  have S_STRUCT := Sta.start ev_STRUCT (Or.inr ⟨(wd hw 6 rfl), (wd hw 121 rfl)⟩)
  have E_STRUCT := Exa.start ev_STRUCT hnbbbbbbbbbbbbba
  obtain ⟨s_LIST, ev_LIST⟩ := exa_v hnbbbbbbbbbbbbbba
  have S_LIST := Sta.start ev_LIST (Or.inr ⟨(wd hw 6 rfl), (wd hw 123 rfl)⟩)
  have E_LIST := Exa.start ev_LIST hnbbbbbbbbbbbbbba
  obtain ⟨s_SET, ev_SET⟩ := exa_v hnbbbbbbbbbbbbbbbba
  have S_SET := Sta.start ev_SET (Or.inr ⟨(wd hw 6 rfl), (wd hw 125 rfl)⟩)
  have E_SET := Exa.start ev_SET hnbbbbbbbbbbbbbbbba
  obtain ⟨s_STRING, ev_STRING⟩ := exa_v hnbbbbbbbbbbbbbbbbba
  have S_STRING := Sta.start ev_STRING (Or.inr ⟨(wd hw 6 rfl), (wd hw 127 rfl)⟩)
  have E_STRING := Exa.start ev_STRING hnbbbbbbbbbbbbbbbbba
  have F_I32_ordinal := own_fldInt ev_I32 hnbbbbbba
  have F_I64_ordinal := own_fldInt ev_I64 hnbbbbbbba
  have F_I16_ordinal := own_fldInt ev_I16 hnbbbbbbbbba
  have F_DOUBLE_ordinal := own_fldInt ev_DOUBLE hnbbbbbbbbbba
  have F_BYTE_ordinal := own_fldInt ev_BYTE hnbbbbbbbbbbba
  have F_BOOL_ordinal := own_fldInt ev_BOOL hnbbbbbbbbbbbba
  have F_LIST_ordinal := own_fldInt ev_LIST hnbbbbbbbbbbbbbbba
  have F_SET_ordinal := own_fldInt ev_SET hnbbbbbbbbbbbbbbbbbba
  have F_STRUCT_ordinal := own_fldInt ev_STRUCT hnbbbbbbbbbbbbbbbbbbba
  have F_STRING_ordinal := own_fldInt ev_STRING hnbbbbbbbbbbbbbbbbbbbba
  have F_MAP_ordinal := own_fldInt ev_MAP hnbbbbbbbbbbbbbbbbbbbbb
  obtain ⟨s_DEF, ev_DEF⟩ := exa_v (Cond.before_iff.mp (hsets _ (List.mem_of_getElem? (i := 7) rfl)))
  have S_DEF := Sta.start ev_DEF (Or.inr ⟨(wd hw 33 rfl), hsets _ (List.mem_of_getElem? (i := 2) rfl)⟩)
  have E_DEF := Exa.start ev_DEF (Cond.before_iff.mp (hsets _ (List.mem_of_getElem? (i := 7) rfl)))
  have V_DEF := own_emptyA (dv := .null) ev_DEF (Cond.before_iff.mp (hsets _ (List.mem_of_getElem? (i := 6) rfl))) (Cond.before_iff.mp (hsets _ (List.mem_of_getElem? (i := 8) rfl)))
  have H : En s s_BOOL s_I16 s_I32 s_BYTE s_DOUBLE s_I64 s_MAP s_STRUCT s_LIST s_SET s_STRING s_DEF := ⟨S_BOOL, E_BOOL, S_I16, E_I16, S_I32, E_I32, S_BYTE, E_BYTE, S_DOUBLE, E_DOUBLE, S_I64, E_I64, S_MAP, E_MAP, S_STRUCT, E_STRUCT, S_LIST, E_LIST, S_SET, E_SET, S_STRING, E_STRING, F_I32_ordinal, F_I64_ordinal, F_I16_ordinal, F_DOUBLE_ordinal, F_BYTE_ordinal, F_BOOL_ordinal, F_LIST_ordinal, F_SET_ordinal, F_STRUCT_ordinal, F_STRING_ordinal, F_MAP_ordinal, S_DEF, E_DEF, V_DEF⟩
  obtain ⟨n, o, h1, h2, h3, _, L, rfl, ⟨rfl, N⟩, hq⟩ := rm0 l s _ hw s.heap.size s.heap (Old.start s) s_BOOL s_I16 s_I32 s_BYTE s_DOUBLE s_I64 s_MAP s_STRUCT s_LIST s_SET s_STRING s_DEF H i0 i1 i2 i3  tables_1 p e ha hc hk s m _ below hf ((Spec.applies_iff_loose hf).mp happ).1 ⟨rfl, State.Warmed39.refl s, rfl⟩ trivial
  refine ⟨n, _, h1, h2, h3, hpost _ _ _ _ _ _ ⟨Cond.after_iff.mpr rfl, Cond.after_iff.mpr (eq_i res_at (Term.int_eval (1)) rfl), trivial⟩ ⟨hq.1, hq.2.1, (hq.2.2.sift fun y hy => Or.inr (N y hy)).mono (by decide) (by decide)⟩⟩
theorem main_1_1 : Claimed_1_1 := comes_1 fun _ _ _ _ _ _ h hF => ⟨h.1, hF⟩
theorem main_1_2 : Claimed_1_2 := comes_1 fun _ _ _ _ _ _ h hF => ⟨h.2.1, hF⟩
end Jvm.Pilot.@@N@@
namespace Jvm.Pilot.@@N@@
open Jvm Jvm.ClassFile Sem Op Lib Jvm.Free Jvm.Stand Jvm.Pilot.@@N@@.Jvm.D
/-! MADE BY PROGRAM (witnessworld.py) out of the Statement's table words and the real class files: 27 classes; the members and pool entries that the words name. The judged class is class 1, her method 2. -/
namespace start1
open Jvm.ClassFile
def u (s : String) : CpInfo := .utf8 (stringToUtf16 s)
/-- a pool by its gaps: so many unusable entries, then the entry; so many at the end -/
def gap : Nat → List CpInfo → List CpInfo
  | 0, r => r
  | n + 1, r => .unusable :: gap n r
def poolList (es : List (Nat × CpInfo)) (last : Nat) : List CpInfo := es.foldr (fun e r => gap e.1 (e.2 :: r)) (gap last [])
def pool (es : List (Nat × CpInfo)) (last : Nat) : Array CpInfo := ⟨poolList es last⟩
def fileOf (pool : Array CpInfo) (this : Nat) (attrs : Array Attribute := #[]) (ms : Array MethodInfo := #[]) (fl : Nat := 33) (sup : Nat := 0) (ifs : Array Nat := #[]) (fds : Array FieldInfo := #[]) : ClassFile where
  minorVersion := 0
  majorVersion := 65
  constantPool := pool
  accessFlags := fl
  thisClass := this
  superClass := sup
  interfaces := ifs
  fields := fds
  methods := ms
  attributes := attrs
def plain (name : String) (sup : Option ClassId) : Class where
  name := name
  kind := .ordinary
  loader := none
  accessFlags := 33
  super := sup
  interfaces := #[]
  cf := none
  fields := #[]
  methods := #[]
  instanceTypes := #[]
  staticTypes := #[]
  resolved := #[]
  callSites := []
  init := .initialized
  statics := none
  mirror := none

def pool0 : Array CpInfo := pool [(5, u "<init>"), (0, u "()V"), (1, .class_ 10), (1, u "java/lang/Object")] 113

def k0c0 : Code := { maxStack := 0, maxLocals := 1, code := object_method_1_code, exceptionTable := #[], attributes := #[] }
def k0m0 : Method := { name := "<init>", desc := "()V", sig := { parameters := [], returnType := none }, accessFlags := 1, code := some k0c0 }
/-- java/lang/Object -/
def k0 : Class := { plain "java/lang/Object" none with
  accessFlags := 33
  interfaces := #[]
  cf := some (fileOf pool0 8 #[] #[{ accessFlags := 1, nameIndex := 5, descriptorIndex := 6, attributes := #[] }] 33 0 #[] #[])
  fields := #[]
  methods := #[k0m0]
  instanceTypes := #[]
  staticTypes := #[]
  resolved := Array.replicate 124 none
  statics := none }

def pool1 : Array CpInfo := pool [(2, .class_ 4), (0, .nameAndType 5 6), (0, u "java/lang/Object"), (0, u "<init>"), (0, u "()V"), (0, .integer 2147483647), (0, .fieldref 9 10), (0, .class_ 11), (0, .nameAndType 12 13), (0, u "com/example/strictwire/strictwire/WireType"), (0, u "BOOL"), (0, u "Lcom/example/strictwire/strictwire/WireType;"), (0, .fieldref 9 15), (0, .nameAndType 16 13), (0, u "BYTE"), (0, .fieldref 9 18), (0, .nameAndType 19 13), (0, u "DOUBLE"), (0, .fieldref 9 21), (0, .nameAndType 22 13), (0, u "I16"), (0, .fieldref 9 24), (0, .nameAndType 25 13), (0, u "I32"), (0, .fieldref 9 27), (0, .nameAndType 28 13), (0, u "I64"), (0, .fieldref 9 30), (0, .nameAndType 31 13), (0, u "STRING"), (0, .fieldref 9 33), (0, .nameAndType 34 13), (0, u "STRUCT"), (0, .fieldref 9 36), (0, .nameAndType 37 13), (0, u "MAP"), (0, .fieldref 9 39), (0, .nameAndType 40 13), (0, u "SET"), (0, .fieldref 9 42), (0, .nameAndType 43 13), (0, u "LIST"), (0, .methodref 45 46), (0, .class_ 47), (0, .nameAndType 48 49), (0, u "com/example/strictwire/strictwire/ValueListHoldsOnlyPinLaw"), (0, u "typeAt"), (0, u "(I)Lcom/example/strictwire/strictwire/WireType;"), (0, .class_ 51), (0, u "com/example/strictwire/strictwire/Value"), (0, .class_ 53), (0, u "com/example/strictwire/strictwire/I32Value"), (0, .methodref 52 55), (0, .nameAndType 5 56), (0, u "(I)V"), (0, .methodref 58 59), (0, .class_ 60), (0, .nameAndType 61 62), (0, u "com/example/strictwire/strictwire/ValueList"), (0, u "ofElements"), (0, u "([Lcom/example/strictwire/strictwire/Value;Lcom/example/strictwire/strictwire/WireType;)Lcom/example/strictwire/strictwire/ValueList;"), (0, .class_ 64), (0, u "java/util/ArrayList"), (0, .methodref 63 3), (0, .methodref 63 67), (0, .nameAndType 68 69), (0, u "add"), (0, u "(Ljava/lang/Object;)Z"), (0, .methodref 58 71), (0, .nameAndType 72 73), (0, u "holdsOnly"), (0, u "(Ljava/util/List;Lcom/example/strictwire/strictwire/WireType;)Z"), (3, u "law"), (0, u "(IIII)Z")] 6

def k1m0 : Method := { name := "<init>", desc := "()V", sig := { parameters := [], returnType := none }, accessFlags := 2, code := none }
def k1c1 : Code := { maxStack := 2, maxLocals := 2, code := method_2_code, exceptionTable := #[], attributes := #[] }
def k1m1 : Method := { name := "typeAt", desc := "(I)Lcom/example/strictwire/strictwire/WireType;", sig := { parameters := [.int], returnType := some (.object "com/example/strictwire/strictwire/WireType") }, accessFlags := 10, code := some k1c1 }
def k1c2 : Code := { maxStack := 5, maxLocals := 14, code := code, exceptionTable := #[], attributes := #[] }
def k1m2 : Method := { name := "law", desc := "(IIII)Z", sig := { parameters := [.int, .int, .int, .int], returnType := some .boolean }, accessFlags := 9, code := some k1c2 }
/-- com/example/strictwire/strictwire/ValueListHoldsOnlyPinLaw -/
def k1 : Class := { plain "com/example/strictwire/strictwire/ValueListHoldsOnlyPinLaw" (some 0) with
  accessFlags := 49
  interfaces := #[]
  cf := some (fileOf pool1 45 #[] #[{ accessFlags := 2, nameIndex := 5, descriptorIndex := 6, attributes := #[] }, { accessFlags := 10, nameIndex := 48, descriptorIndex := 49, attributes := #[] }, { accessFlags := 9, nameIndex := 77, descriptorIndex := 78, attributes := #[] }] 49 2 #[] #[])
  fields := #[]
  methods := #[k1m0, k1m1, k1m2]
  instanceTypes := #[]
  staticTypes := #[]
  resolved := Array.replicate 85 none
  statics := none }

def pool2 : Array CpInfo := pool [(1, .class_ 2), (0, u "java/lang/constant/Constable"), (0, .class_ 4), (0, u "java/lang/Object")] 6

/-- java/lang/constant/Constable -/
def k2 : Class := { plain "java/lang/constant/Constable" (some 0) with
  accessFlags := 1537
  interfaces := #[]
  cf := some (fileOf pool2 1 #[] #[] 1537 3 #[] #[])
  fields := #[]
  methods := #[]
  instanceTypes := #[]
  staticTypes := #[]
  resolved := Array.replicate 11 none
  statics := none }

def pool3 : Array CpInfo := pool [(1, .class_ 2), (0, u "java/lang/Comparable"), (0, .class_ 4), (0, u "java/lang/Object")] 7

/-- java/lang/Comparable -/
def k3 : Class := { plain "java/lang/Comparable" (some 0) with
  accessFlags := 1537
  interfaces := #[]
  cf := some (fileOf pool3 1 #[] #[] 1537 3 #[] #[])
  fields := #[]
  methods := #[]
  instanceTypes := #[]
  staticTypes := #[]
  resolved := Array.replicate 12 none
  statics := none }

def pool4 : Array CpInfo := pool [(1, .class_ 2), (0, u "java/io/Serializable"), (0, .class_ 4), (0, u "java/lang/Object")] 2

/-- java/io/Serializable -/
def k4 : Class := { plain "java/io/Serializable" (some 0) with
  accessFlags := 1537
  interfaces := #[]
  cf := some (fileOf pool4 1 #[] #[] 1537 3 #[] #[])
  fields := #[]
  methods := #[]
  instanceTypes := #[]
  staticTypes := #[]
  resolved := Array.replicate 7 none
  statics := none }

def pool5 : Array CpInfo := pool [(2, .class_ 4), (1, u "java/lang/Enum"), (0, u "name"), (0, u "Ljava/lang/String;"), (2, u "ordinal"), (0, u "I"), (1, .class_ 14), (1, u "java/lang/Object"), (4, u "hash"), (86, .class_ 108), (1, u "java/lang/Enum$EnumDesc"), (2, .class_ 112), (0, u "java/lang/constant/Constable"), (0, .class_ 114), (0, u "java/lang/Comparable"), (0, .class_ 116), (0, u "java/io/Serializable")] 87

/-- java/lang/Enum -/
def k5 : Class := { plain "java/lang/Enum" (some 0) with
  accessFlags := 1057
  interfaces := #[2, 3, 4]
  cf := some (fileOf pool5 2 #[.nestMembers #[106]] #[] 1057 12 #[111, 113, 115] #[{ accessFlags := 18, nameIndex := 5, descriptorIndex := 6, attributes := #[] }, { accessFlags := 18, nameIndex := 9, descriptorIndex := 10, attributes := #[] }, { accessFlags := 2, nameIndex := 19, descriptorIndex := 10, attributes := #[] }])
  fields := #[{ name := "name", type := (.object "java/lang/String"), accessFlags := 18, slot := 0, constantValue := 0 }, { name := "ordinal", type := .int, accessFlags := 18, slot := 1, constantValue := 0 }, { name := "hash", type := .int, accessFlags := 2, slot := 2, constantValue := 0 }]
  methods := #[]
  instanceTypes := #[(.object "java/lang/String"), .int, .int]
  staticTypes := #[]
  resolved := Array.replicate 204 none
  statics := none }

def pool6 : Array CpInfo := pool [(1, .class_ 2), (0, u "com/example/strictwire/strictwire/WireType"), (2, u "BOOL"), (0, u "Lcom/example/strictwire/strictwire/WireType;"), (2, u "BYTE"), (2, u "DOUBLE"), (2, u "I16"), (2, u "I32"), (2, u "I64"), (2, u "STRING"), (2, u "STRUCT"), (2, u "MAP"), (2, u "SET"), (2, u "LIST"), (2, u "$VALUES"), (0, u "[Lcom/example/strictwire/strictwire/WireType;"), (6, .class_ 49), (1, u "java/lang/Enum"), (8, u "code"), (0, u "B"), (2, u "typeName"), (0, u "Ljava/lang/String;"), (2, u "BY_CODE")] 68

/-- com/example/strictwire/strictwire/WireType -/
def k6 : Class := { plain "com/example/strictwire/strictwire/WireType" (some 5) with
  accessFlags := 16433
  interfaces := #[]
  cf := some (fileOf pool6 1 #[] #[] 16433 47 #[] #[{ accessFlags := 16409, nameIndex := 5, descriptorIndex := 6, attributes := #[] }, { accessFlags := 16409, nameIndex := 9, descriptorIndex := 6, attributes := #[] }, { accessFlags := 16409, nameIndex := 12, descriptorIndex := 6, attributes := #[] }, { accessFlags := 16409, nameIndex := 15, descriptorIndex := 6, attributes := #[] }, { accessFlags := 16409, nameIndex := 18, descriptorIndex := 6, attributes := #[] }, { accessFlags := 16409, nameIndex := 21, descriptorIndex := 6, attributes := #[] }, { accessFlags := 16409, nameIndex := 24, descriptorIndex := 6, attributes := #[] }, { accessFlags := 16409, nameIndex := 27, descriptorIndex := 6, attributes := #[] }, { accessFlags := 16409, nameIndex := 30, descriptorIndex := 6, attributes := #[] }, { accessFlags := 16409, nameIndex := 33, descriptorIndex := 6, attributes := #[] }, { accessFlags := 16409, nameIndex := 36, descriptorIndex := 6, attributes := #[] }, { accessFlags := 26, nameIndex := 66, descriptorIndex := 40, attributes := #[] }, { accessFlags := 18, nameIndex := 58, descriptorIndex := 59, attributes := #[] }, { accessFlags := 18, nameIndex := 62, descriptorIndex := 63, attributes := #[] }, { accessFlags := 4122, nameIndex := 39, descriptorIndex := 40, attributes := #[] }])
  fields := #[{ name := "BOOL", type := (.object "com/example/strictwire/strictwire/WireType"), accessFlags := 16409, slot := 0, constantValue := 0 }, { name := "BYTE", type := (.object "com/example/strictwire/strictwire/WireType"), accessFlags := 16409, slot := 1, constantValue := 0 }, { name := "DOUBLE", type := (.object "com/example/strictwire/strictwire/WireType"), accessFlags := 16409, slot := 2, constantValue := 0 }, { name := "I16", type := (.object "com/example/strictwire/strictwire/WireType"), accessFlags := 16409, slot := 3, constantValue := 0 }, { name := "I32", type := (.object "com/example/strictwire/strictwire/WireType"), accessFlags := 16409, slot := 4, constantValue := 0 }, { name := "I64", type := (.object "com/example/strictwire/strictwire/WireType"), accessFlags := 16409, slot := 5, constantValue := 0 }, { name := "STRING", type := (.object "com/example/strictwire/strictwire/WireType"), accessFlags := 16409, slot := 6, constantValue := 0 }, { name := "STRUCT", type := (.object "com/example/strictwire/strictwire/WireType"), accessFlags := 16409, slot := 7, constantValue := 0 }, { name := "MAP", type := (.object "com/example/strictwire/strictwire/WireType"), accessFlags := 16409, slot := 8, constantValue := 0 }, { name := "SET", type := (.object "com/example/strictwire/strictwire/WireType"), accessFlags := 16409, slot := 9, constantValue := 0 }, { name := "LIST", type := (.object "com/example/strictwire/strictwire/WireType"), accessFlags := 16409, slot := 10, constantValue := 0 }, { name := "BY_CODE", type := (.array (.object "com/example/strictwire/strictwire/WireType")), accessFlags := 26, slot := 11, constantValue := 0 }, { name := "code", type := .byte, accessFlags := 18, slot := 3, constantValue := 0 }, { name := "typeName", type := (.object "java/lang/String"), accessFlags := 18, slot := 4, constantValue := 0 }, { name := "$VALUES", type := (.array (.object "com/example/strictwire/strictwire/WireType")), accessFlags := 4122, slot := 12, constantValue := 0 }]
  methods := #[]
  instanceTypes := #[(.object "java/lang/String"), .int, .int, .byte, (.object "java/lang/String")]
  staticTypes := #[(.object "com/example/strictwire/strictwire/WireType"), (.object "com/example/strictwire/strictwire/WireType"), (.object "com/example/strictwire/strictwire/WireType"), (.object "com/example/strictwire/strictwire/WireType"), (.object "com/example/strictwire/strictwire/WireType"), (.object "com/example/strictwire/strictwire/WireType"), (.object "com/example/strictwire/strictwire/WireType"), (.object "com/example/strictwire/strictwire/WireType"), (.object "com/example/strictwire/strictwire/WireType"), (.object "com/example/strictwire/strictwire/WireType"), (.object "com/example/strictwire/strictwire/WireType"), (.array (.object "com/example/strictwire/strictwire/WireType")), (.array (.object "com/example/strictwire/strictwire/WireType"))]
  resolved := Array.replicate 135 none
  statics := some 0 }

def pool7 : Array CpInfo := pool [(1, .class_ 2), (0, u "com/example/strictwire/strictwire/Value"), (0, .class_ 4), (0, u "java/lang/Object")] 25

/-- com/example/strictwire/strictwire/Value -/
def k7 : Class := { plain "com/example/strictwire/strictwire/Value" (some 0) with
  accessFlags := 1537
  interfaces := #[]
  cf := some (fileOf pool7 1 #[] #[] 1537 3 #[] #[])
  fields := #[]
  methods := #[]
  instanceTypes := #[]
  staticTypes := #[]
  resolved := Array.replicate 30 none
  statics := none }

def pool8 : Array CpInfo := pool [(1, .methodref 2 3), (0, .class_ 4), (0, .nameAndType 5 6), (0, u "java/lang/Object"), (0, u "<init>"), (0, u "()V"), (0, .class_ 8), (0, u "java/lang/Record")] 13

def k8c0 : Code := { maxStack := 1, maxLocals := 1, code := jdk_30_method_1_code, exceptionTable := #[], attributes := #[] }
def k8m0 : Method := { name := "<init>", desc := "()V", sig := { parameters := [], returnType := none }, accessFlags := 4, code := some k8c0 }
/-- java/lang/Record -/
def k8 : Class := { plain "java/lang/Record" (some 0) with
  accessFlags := 1057
  interfaces := #[]
  cf := some (fileOf pool8 7 #[] #[{ accessFlags := 4, nameIndex := 5, descriptorIndex := 6, attributes := #[] }] 1057 2 #[] #[])
  fields := #[]
  methods := #[k8m0]
  instanceTypes := #[]
  staticTypes := #[]
  resolved := Array.replicate 22 none
  statics := none }

def pool9 : Array CpInfo := pool [(1, .methodref 2 3), (0, .class_ 4), (0, .nameAndType 5 6), (0, u "java/lang/Record"), (0, u "<init>"), (0, u "()V"), (0, .fieldref 8 9), (0, .class_ 10), (0, .nameAndType 11 12), (0, u "com/example/strictwire/strictwire/I32Value"), (0, u "value"), (0, u "I"), (18, .class_ 32), (0, u "com/example/strictwire/strictwire/Value"), (0, u "(I)V")] 27

def k9c0 : Code := { maxStack := 2, maxLocals := 2, code := prog_15_method_1_code, exceptionTable := #[], attributes := #[] }
def k9m0 : Method := { name := "<init>", desc := "(I)V", sig := { parameters := [.int], returnType := none }, accessFlags := 1, code := some k9c0 }
/-- com/example/strictwire/strictwire/I32Value -/
def k9 : Class := { plain "com/example/strictwire/strictwire/I32Value" (some 8) with
  accessFlags := 49
  interfaces := #[7]
  cf := some (fileOf pool9 8 #[] #[{ accessFlags := 1, nameIndex := 5, descriptorIndex := 33, attributes := #[] }] 49 2 #[31] #[{ accessFlags := 18, nameIndex := 11, descriptorIndex := 12, attributes := #[] }])
  fields := #[{ name := "value", type := .int, accessFlags := 18, slot := 0, constantValue := 0 }]
  methods := #[k9m0]
  instanceTypes := #[.int]
  staticTypes := #[]
  resolved := Array.replicate 61 none
  statics := none }

def pool10 : Array CpInfo := pool [(8, .class_ 10), (1, u "java/lang/Iterable"), (24, .class_ 36), (0, u "java/lang/Object")] 25

/-- java/lang/Iterable -/
def k10 : Class := { plain "java/lang/Iterable" (some 0) with
  accessFlags := 1537
  interfaces := #[]
  cf := some (fileOf pool10 8 #[] #[] 1537 35 #[] #[])
  fields := #[]
  methods := #[]
  instanceTypes := #[]
  staticTypes := #[]
  resolved := Array.replicate 62 none
  statics := none }

def pool11 : Array CpInfo := pool [(10, .class_ 12), (1, u "java/util/Collection"), (47, .class_ 61), (0, u "java/lang/Object"), (0, .class_ 63), (0, u "java/lang/Iterable")] 51

/-- java/util/Collection -/
def k11 : Class := { plain "java/util/Collection" (some 0) with
  accessFlags := 1537
  interfaces := #[10]
  cf := some (fileOf pool11 10 #[] #[] 1537 60 #[62] #[])
  fields := #[]
  methods := #[]
  instanceTypes := #[]
  staticTypes := #[]
  resolved := Array.replicate 115 none
  statics := none }

def pool12 : Array CpInfo := pool [(1, .methodref 2 3), (0, .class_ 4), (0, .nameAndType 5 6), (0, u "java/lang/Object"), (0, u "<init>"), (0, u "()V"), (1, .class_ 10), (1, u "java/util/AbstractCollection"), (66, .class_ 78), (0, u "java/util/Collection")] 81

def k12c0 : Code := { maxStack := 1, maxLocals := 1, code := jdk_22_method_1_code, exceptionTable := #[], attributes := #[] }
def k12m0 : Method := { name := "<init>", desc := "()V", sig := { parameters := [], returnType := none }, accessFlags := 4, code := some k12c0 }
/-- java/util/AbstractCollection -/
def k12 : Class := { plain "java/util/AbstractCollection" (some 0) with
  accessFlags := 1057
  interfaces := #[11]
  cf := some (fileOf pool12 8 #[] #[{ accessFlags := 4, nameIndex := 5, descriptorIndex := 6, attributes := #[] }] 1057 2 #[77] #[])
  fields := #[]
  methods := #[k12m0]
  instanceTypes := #[]
  staticTypes := #[]
  resolved := Array.replicate 160 none
  statics := none }

def pool13 : Array CpInfo := pool [(8, .class_ 10), (1, u "java/util/SequencedCollection"), (15, .class_ 27), (0, u "java/lang/Object"), (0, .class_ 29), (0, u "java/util/Collection")] 27

/-- java/util/SequencedCollection -/
def k13 : Class := { plain "java/util/SequencedCollection" (some 0) with
  accessFlags := 1537
  interfaces := #[11]
  cf := some (fileOf pool13 8 #[] #[] 1537 26 #[28] #[])
  fields := #[]
  methods := #[]
  instanceTypes := #[]
  staticTypes := #[]
  resolved := Array.replicate 57 none
  statics := none }

def pool14 : Array CpInfo := pool [(8, .class_ 10), (1, u "java/util/List"), (92, .class_ 104), (0, u "java/lang/Object"), (15, .class_ 121), (0, u "java/util/SequencedCollection")] 129

/-- java/util/List -/
def k14 : Class := { plain "java/util/List" (some 0) with
  accessFlags := 1537
  interfaces := #[13]
  cf := some (fileOf pool14 8 #[] #[] 1537 103 #[120] #[])
  fields := #[]
  methods := #[]
  instanceTypes := #[]
  staticTypes := #[]
  resolved := Array.replicate 251 none
  statics := none }

def pool15 : Array CpInfo := pool [(1, .methodref 2 3), (0, .class_ 4), (0, .nameAndType 5 6), (0, u "java/util/AbstractCollection"), (0, u "<init>"), (0, u "()V"), (0, .fieldref 8 9), (0, .class_ 10), (0, .nameAndType 11 12), (0, u "java/util/AbstractList"), (0, u "modCount"), (0, u "I"), (64, .class_ 78), (0, u "java/util/AbstractList$Itr"), (3, .class_ 83), (0, u "java/util/AbstractList$ListItr"), (9, .class_ 94), (0, u "java/util/AbstractList$RandomAccessSubList"), (3, .class_ 99), (0, u "java/util/AbstractList$SubList"), (33, .class_ 134), (0, u "java/util/List"), (73, .class_ 209), (0, u "java/util/AbstractList$SubList$1"), (0, .class_ 211), (0, u "java/util/AbstractList$RandomAccessSpliterator")] 6

def k15c0 : Code := { maxStack := 2, maxLocals := 1, code := jdk_39_method_1_code, exceptionTable := #[], attributes := #[] }
def k15m0 : Method := { name := "<init>", desc := "()V", sig := { parameters := [], returnType := none }, accessFlags := 4, code := some k15c0 }
/-- java/util/AbstractList -/
def k15 : Class := { plain "java/util/AbstractList" (some 12) with
  accessFlags := 1057
  interfaces := #[14]
  cf := some (fileOf pool15 8 #[.nestMembers #[93, 98, 208, 210, 82, 77]] #[{ accessFlags := 4, nameIndex := 5, descriptorIndex := 6, attributes := #[] }] 1057 2 #[133] #[{ accessFlags := 132, nameIndex := 11, descriptorIndex := 12, attributes := #[] }])
  fields := #[{ name := "modCount", type := .int, accessFlags := 132, slot := 0, constantValue := 0 }]
  methods := #[k15m0]
  instanceTypes := #[.int]
  staticTypes := #[]
  resolved := Array.replicate 218 none
  statics := none }

def pool16 : Array CpInfo := pool [(1, .class_ 2), (0, u "java/util/RandomAccess"), (0, .class_ 4), (0, u "java/lang/Object")] 2

/-- java/util/RandomAccess -/
def k16 : Class := { plain "java/util/RandomAccess" (some 0) with
  accessFlags := 1537
  interfaces := #[]
  cf := some (fileOf pool16 1 #[] #[] 1537 3 #[] #[])
  fields := #[]
  methods := #[]
  instanceTypes := #[]
  staticTypes := #[]
  resolved := Array.replicate 7 none
  statics := none }

def pool17 : Array CpInfo := pool [(1, .class_ 2), (0, u "java/lang/Cloneable"), (0, .class_ 4), (0, u "java/lang/Object")] 2

/-- java/lang/Cloneable -/
def k17 : Class := { plain "java/lang/Cloneable" (some 0) with
  accessFlags := 1537
  interfaces := #[]
  cf := some (fileOf pool17 1 #[] #[] 1537 3 #[] #[])
  fields := #[]
  methods := #[]
  instanceTypes := #[]
  staticTypes := #[]
  resolved := Array.replicate 7 none
  statics := none }

def pool18 : Array CpInfo := pool [(1, .methodref 2 3), (0, .class_ 4), (0, .nameAndType 5 6), (0, u "java/util/AbstractList"), (0, u "<init>"), (0, u "()V"), (0, .class_ 8), (0, u "java/lang/Object"), (0, .fieldref 10 11), (0, .class_ 12), (0, .nameAndType 13 14), (0, u "java/util/ArrayList"), (0, u "elementData"), (0, u "[Ljava/lang/Object;"), (2, u "EMPTY_ELEMENTDATA"), (21, .fieldref 10 40), (0, .nameAndType 41 14), (0, u "DEFAULTCAPACITY_EMPTY_ELEMENTDATA"), (5, u "()[Ljava/lang/Object;"), (0, .fieldref 10 49), (0, .nameAndType 50 51), (0, u "size"), (0, u "I"), (11, .fieldref 10 64), (0, .nameAndType 65 51), (0, u "modCount"), (3, .methodref 10 70), (0, .nameAndType 71 72), (0, u "grow"), (0, u "(I)[Ljava/lang/Object;"), (6, .methodref 80 81), (0, .class_ 82), (0, .nameAndType 83 84), (0, u "java/lang/Math"), (0, u "max"), (0, u "(II)I"), (11, u "(Ljava/lang/Object;)Z"), (32, .methodref 10 130), (0, .nameAndType 71 47), (0, .methodref 10 132), (0, .nameAndType 133 134), (0, u "add"), (0, u "(Ljava/lang/Object;[Ljava/lang/Object;I)V"), (13, .class_ 149), (0, u "java/util/List"), (112, .class_ 263), (0, u "java/util/ArrayList$ListItr"), (3, .class_ 268), (0, u "java/util/ArrayList$Itr"), (7, .class_ 277), (0, u "java/util/ArrayList$SubList"), (12, .class_ 291), (0, u "java/util/ArrayList$ArrayListSpliterator"), (37, .class_ 330), (0, u "java/util/RandomAccess"), (0, .class_ 332), (0, u "java/lang/Cloneable"), (0, .class_ 334), (0, u "java/io/Serializable"), (0, u "serialVersionUID"), (0, u "J"), (3, u "DEFAULT_CAPACITY"), (159, .class_ 501), (0, u "java/util/ArrayList$SubList$2"), (0, .class_ 503), (0, u "java/util/ArrayList$SubList$1")] 5

def k18c0 : Code := { maxStack := 2, maxLocals := 1, code := jdk_38_method_2_code, exceptionTable := #[], attributes := #[] }
def k18m0 : Method := { name := "<init>", desc := "()V", sig := { parameters := [], returnType := none }, accessFlags := 1, code := some k18c0 }
def k18c1 : Code := { maxStack := 4, maxLocals := 4, code := jdk_38_method_6_code, exceptionTable := #[], attributes := #[] }
def k18m1 : Method := { name := "grow", desc := "(I)[Ljava/lang/Object;", sig := { parameters := [.int], returnType := some (.array (.object "java/lang/Object")) }, accessFlags := 2, code := some k18c1 }
def k18c2 : Code := { maxStack := 3, maxLocals := 1, code := jdk_38_method_7_code, exceptionTable := #[], attributes := #[] }
def k18m2 : Method := { name := "grow", desc := "()[Ljava/lang/Object;", sig := { parameters := [], returnType := some (.array (.object "java/lang/Object")) }, accessFlags := 2, code := some k18c2 }
def k18c3 : Code := { maxStack := 3, maxLocals := 4, code := jdk_38_method_24_code, exceptionTable := #[], attributes := #[] }
def k18m3 : Method := { name := "add", desc := "(Ljava/lang/Object;[Ljava/lang/Object;I)V", sig := { parameters := [(.object "java/lang/Object"), (.array (.object "java/lang/Object")), .int], returnType := none }, accessFlags := 2, code := some k18c3 }
def k18c4 : Code := { maxStack := 4, maxLocals := 2, code := jdk_38_method_25_code, exceptionTable := #[], attributes := #[] }
def k18m4 : Method := { name := "add", desc := "(Ljava/lang/Object;)Z", sig := { parameters := [(.object "java/lang/Object")], returnType := some .boolean }, accessFlags := 1, code := some k18c4 }
/-- java/util/ArrayList -/
def k18 : Class := { plain "java/util/ArrayList" (some 15) with
  accessFlags := 33
  interfaces := #[14, 16, 17, 4]
  cf := some (fileOf pool18 10 #[.nestMembers #[290, 276, 500, 502, 262, 267]] #[{ accessFlags := 1, nameIndex := 5, descriptorIndex := 6, attributes := #[] }, { accessFlags := 2, nameIndex := 71, descriptorIndex := 72, attributes := #[] }, { accessFlags := 2, nameIndex := 71, descriptorIndex := 47, attributes := #[] }, { accessFlags := 2, nameIndex := 133, descriptorIndex := 134, attributes := #[] }, { accessFlags := 1, nameIndex := 133, descriptorIndex := 96, attributes := #[] }] 33 2 #[148, 329, 331, 333] #[{ accessFlags := 26, nameIndex := 335, descriptorIndex := 336, attributes := #[] }, { accessFlags := 26, nameIndex := 340, descriptorIndex := 51, attributes := #[] }, { accessFlags := 26, nameIndex := 17, descriptorIndex := 14, attributes := #[] }, { accessFlags := 26, nameIndex := 41, descriptorIndex := 14, attributes := #[] }, { accessFlags := 128, nameIndex := 13, descriptorIndex := 14, attributes := #[] }, { accessFlags := 2, nameIndex := 50, descriptorIndex := 51, attributes := #[] }])
  fields := #[{ name := "serialVersionUID", type := .long, accessFlags := 26, slot := 0, constantValue := 0 }, { name := "DEFAULT_CAPACITY", type := .int, accessFlags := 26, slot := 1, constantValue := 0 }, { name := "EMPTY_ELEMENTDATA", type := (.array (.object "java/lang/Object")), accessFlags := 26, slot := 2, constantValue := 0 }, { name := "DEFAULTCAPACITY_EMPTY_ELEMENTDATA", type := (.array (.object "java/lang/Object")), accessFlags := 26, slot := 3, constantValue := 0 }, { name := "elementData", type := (.array (.object "java/lang/Object")), accessFlags := 128, slot := 1, constantValue := 0 }, { name := "size", type := .int, accessFlags := 2, slot := 2, constantValue := 0 }]
  methods := #[k18m0, k18m1, k18m2, k18m3, k18m4]
  instanceTypes := #[.int, (.array (.object "java/lang/Object")), .int]
  staticTypes := #[.long, .int, (.array (.object "java/lang/Object")), (.array (.object "java/lang/Object"))]
  resolved := Array.replicate 509 none
  statics := some 1 }

def pool19 : Array CpInfo := pool [(1, .class_ 2), (0, u "java/lang/Math"), (1, .class_ 6), (1, u "java/lang/Object"), (0, u "<init>"), (0, u "()V"), (89, .class_ 100), (1, u "java/lang/Math$RandomNumberGeneratorHolder"), (71, u "negativeZeroFloatBits"), (0, u "J"), (2, u "negativeZeroDoubleBits"), (21, u "max"), (46, u "$assertionsDisabled"), (0, u "Z"), (88, u "(II)I"), (2, u "twoToTheDoubleScaleDown"), (0, u "D"), (4, u "twoToTheDoubleScaleUp"), (9, u "E"), (3, u "PI"), (2, u "TAU"), (2, u "DEGREES_TO_RADIANS"), (0, u "RADIANS_TO_DEGREES")] 94

def k19m0 : Method := { name := "<init>", desc := "()V", sig := { parameters := [], returnType := none }, accessFlags := 2, code := none }
def k19c1 : Code := { maxStack := 2, maxLocals := 2, code := jdk_29_method_65_code, exceptionTable := #[], attributes := #[] }
def k19m1 : Method := { name := "max", desc := "(II)I", sig := { parameters := [.int, .int], returnType := some .int }, accessFlags := 9, code := some k19c1 }
/-- java/lang/Math -/
def k19 : Class := { plain "java/lang/Math" (some 0) with
  accessFlags := 49
  interfaces := #[]
  cf := some (fileOf pool19 1 #[.nestMembers #[98]] #[{ accessFlags := 2, nameIndex := 7, descriptorIndex := 8, attributes := #[] }, { accessFlags := 9, nameIndex := 198, descriptorIndex := 335, attributes := #[] }] 49 4 #[] #[{ accessFlags := 25, nameIndex := 354, descriptorIndex := 339, attributes := #[] }, { accessFlags := 25, nameIndex := 358, descriptorIndex := 339, attributes := #[] }, { accessFlags := 25, nameIndex := 361, descriptorIndex := 339, attributes := #[] }, { accessFlags := 26, nameIndex := 364, descriptorIndex := 339, attributes := #[] }, { accessFlags := 26, nameIndex := 365, descriptorIndex := 339, attributes := #[] }, { accessFlags := 26, nameIndex := 172, descriptorIndex := 173, attributes := #[] }, { accessFlags := 26, nameIndex := 176, descriptorIndex := 173, attributes := #[] }, { accessFlags := 8, nameIndex := 344, descriptorIndex := 339, attributes := #[] }, { accessFlags := 8, nameIndex := 338, descriptorIndex := 339, attributes := #[] }, { accessFlags := 4120, nameIndex := 245, descriptorIndex := 246, attributes := #[] }])
  fields := #[{ name := "E", type := .double, accessFlags := 25, slot := 0, constantValue := 0 }, { name := "PI", type := .double, accessFlags := 25, slot := 1, constantValue := 0 }, { name := "TAU", type := .double, accessFlags := 25, slot := 2, constantValue := 0 }, { name := "DEGREES_TO_RADIANS", type := .double, accessFlags := 26, slot := 3, constantValue := 0 }, { name := "RADIANS_TO_DEGREES", type := .double, accessFlags := 26, slot := 4, constantValue := 0 }, { name := "negativeZeroFloatBits", type := .long, accessFlags := 26, slot := 5, constantValue := 0 }, { name := "negativeZeroDoubleBits", type := .long, accessFlags := 26, slot := 6, constantValue := 0 }, { name := "twoToTheDoubleScaleUp", type := .double, accessFlags := 8, slot := 7, constantValue := 0 }, { name := "twoToTheDoubleScaleDown", type := .double, accessFlags := 8, slot := 8, constantValue := 0 }, { name := "$assertionsDisabled", type := .boolean, accessFlags := 4120, slot := 9, constantValue := 0 }]
  methods := #[k19m0, k19m1]
  instanceTypes := #[]
  staticTypes := #[.double, .double, .double, .double, .double, .long, .long, .double, .double, .boolean]
  resolved := Array.replicate 460 none
  statics := none }

def pool20 : Array CpInfo := pool [(1, .methodref 2 3), (0, .class_ 4), (0, .nameAndType 5 6), (0, u "java/util/AbstractList"), (0, u "<init>"), (0, u "()V"), (0, .fieldref 8 9), (0, .class_ 10), (0, .nameAndType 11 12), (0, u "com/example/strictwire/strictwire/ValueList"), (0, u "elements"), (0, u "[Ljava/lang/Object;"), (0, .fieldref 8 14), (0, .nameAndType 15 16), (0, u "distinctIds"), (0, u "Z"), (0, .fieldref 8 18), (0, .nameAndType 19 20), (0, u "elementType"), (0, u "Lcom/example/strictwire/strictwire/WireType;"), (0, .methodref 8 22), (0, .nameAndType 5 23), (0, u "([Ljava/lang/Object;ZLcom/example/strictwire/strictwire/WireType;)V"), (6, .class_ 31), (0, u "java/util/RandomAccess"), (8, u "ofElements"), (0, u "([Lcom/example/strictwire/strictwire/Value;Lcom/example/strictwire/strictwire/WireType;)Lcom/example/strictwire/strictwire/ValueList;"), (10, u "holdsOnly"), (0, u "(Ljava/util/List;Lcom/example/strictwire/strictwire/WireType;)Z")] 15

def k20c0 : Code := { maxStack := 2, maxLocals := 4, code := prog_38_method_1_code, exceptionTable := #[], attributes := #[] }
def k20m0 : Method := { name := "<init>", desc := "([Ljava/lang/Object;ZLcom/example/strictwire/strictwire/WireType;)V", sig := { parameters := [(.array (.object "java/lang/Object")), .boolean, (.object "com/example/strictwire/strictwire/WireType")], returnType := none }, accessFlags := 2, code := some k20c0 }
def k20c1 : Code := { maxStack := 5, maxLocals := 2, code := prog_38_method_3_code, exceptionTable := #[], attributes := #[] }
def k20m1 : Method := { name := "ofElements", desc := "([Lcom/example/strictwire/strictwire/Value;Lcom/example/strictwire/strictwire/WireType;)Lcom/example/strictwire/strictwire/ValueList;", sig := { parameters := [(.array (.object "com/example/strictwire/strictwire/Value")), (.object "com/example/strictwire/strictwire/WireType")], returnType := some (.object "com/example/strictwire/strictwire/ValueList") }, accessFlags := 8, code := some k20c1 }
def k20c2 : Code := { maxStack := 2, maxLocals := 3, code := prog_38_method_7_code, exceptionTable := #[], attributes := #[] }
def k20m2 : Method := { name := "holdsOnly", desc := "(Ljava/util/List;Lcom/example/strictwire/strictwire/WireType;)Z", sig := { parameters := [(.object "java/util/List"), (.object "com/example/strictwire/strictwire/WireType")], returnType := some .boolean }, accessFlags := 8, code := some k20c2 }
/-- com/example/strictwire/strictwire/ValueList -/
def k20 : Class := { plain "com/example/strictwire/strictwire/ValueList" (some 15) with
  accessFlags := 48
  interfaces := #[16]
  cf := some (fileOf pool20 8 #[] #[{ accessFlags := 2, nameIndex := 5, descriptorIndex := 23, attributes := #[] }, { accessFlags := 8, nameIndex := 40, descriptorIndex := 41, attributes := #[] }, { accessFlags := 8, nameIndex := 52, descriptorIndex := 53, attributes := #[] }] 48 2 #[30] #[{ accessFlags := 18, nameIndex := 11, descriptorIndex := 12, attributes := #[] }, { accessFlags := 18, nameIndex := 15, descriptorIndex := 16, attributes := #[] }, { accessFlags := 18, nameIndex := 19, descriptorIndex := 20, attributes := #[] }])
  fields := #[{ name := "elements", type := (.array (.object "java/lang/Object")), accessFlags := 18, slot := 1, constantValue := 0 }, { name := "distinctIds", type := .boolean, accessFlags := 18, slot := 2, constantValue := 0 }, { name := "elementType", type := (.object "com/example/strictwire/strictwire/WireType"), accessFlags := 18, slot := 3, constantValue := 0 }]
  methods := #[k20m0, k20m1, k20m2]
  instanceTypes := #[.int, (.array (.object "java/lang/Object")), .boolean, (.object "com/example/strictwire/strictwire/WireType")]
  staticTypes := #[]
  resolved := Array.replicate 69 none
  statics := none }

/-- the primitive byte -/
def k21 : Class := { plain "byte" none with kind := .primitive 'B', accessFlags := 0x411 }
/-- [B -/
def k22 : Class := { plain "[B" (some 0) with kind := .array 21 .byte, interfaces := #[17, 4], accessFlags := 1041 }

/-- the primitive int -/
def k23 : Class := { plain "int" none with kind := .primitive 'I', accessFlags := 0x411 }
/-- [I -/
def k24 : Class := { plain "[I" (some 0) with kind := .array 23 .int, interfaces := #[17, 4], accessFlags := 1041 }

/-- [Lcom/example/strictwire/strictwire/Value; -/
def k25 : Class := { plain "[Lcom/example/strictwire/strictwire/Value;" (some 0) with kind := .array 7 (.object "com/example/strictwire/strictwire/Value"), interfaces := #[17, 4], accessFlags := 1041 }

/-- [Ljava/lang/Object; -/
def k26 : Class := { plain "[Ljava/lang/Object;" (some 0) with kind := .array 0 (.object "java/lang/Object"), interfaces := #[17, 4], accessFlags := 1041 }

def heap : Heap := #[{ cls := 6, slots := #[.ref 2, .ref 5, .ref 6, .ref 3, .ref 4, .ref 7, .ref 12, .ref 9, .ref 8, .ref 11, .ref 10, .null, .null], vm := .statics 6 },
  { cls := 18, slots := #[.long 0, .int 0, .ref 13, .ref 14], vm := .statics 18 },
  { cls := 6, slots := #[.null, .int 0, .int 0, .int 0, .null], vm := .none },
  { cls := 6, slots := #[.null, .int 3, .int 0, .int 0, .null], vm := .none },
  { cls := 6, slots := #[.null, .int 4, .int 0, .int 0, .null], vm := .none },
  { cls := 6, slots := #[.null, .int 1, .int 0, .int 0, .null], vm := .none },
  { cls := 6, slots := #[.null, .int 2, .int 0, .int 0, .null], vm := .none },
  { cls := 6, slots := #[.null, .int 5, .int 0, .int 0, .null], vm := .none },
  { cls := 6, slots := #[.null, .int 8, .int 0, .int 0, .null], vm := .none },
  { cls := 6, slots := #[.null, .int 7, .int 0, .int 0, .null], vm := .none },
  { cls := 6, slots := #[.null, .int 10, .int 0, .int 0, .null], vm := .none },
  { cls := 6, slots := #[.null, .int 9, .int 0, .int 0, .null], vm := .none },
  { cls := 6, slots := #[.null, .int 6, .int 0, .int 0, .null], vm := .none },
  { cls := 26, slots := #[], vm := .none },
  { cls := 26, slots := #[], vm := .none }]
def classes : Array Class := #[k0, k1, k2, k3, k4, k5, k6, k7, k8, k9, k10, k11, k12, k13, k14, k15, k16, k17, k18, k19, k20, k21, k22, k23, k24, k25, k26]
def interned : List (Array UInt16 × Addr) := []
def slotsUsed : Nat := 72
def theMethod : MethodId := ⟨1, 2⟩
def args0 : Array Value := #[.int 2, .int 5, .int 1, .int 7]
def aboutOver (below : List Frame) : State where
  vm := { classes := classes, interned := interned.toArray }
  heap := heap
  slotsUsed := slotsUsed
  threads := #[{ frames := .invoking theMethod args0 :: below }]
def below0 : List Frame := [.native { method := ⟨0, 0⟩, args := #[] }]
def about1 : State := aboutOver below0
def p0 : Program := .bare "" "" ""
def e0 : Env := launch0.env 0 0 0
theorem w_frames : about1.frames = Frame.invoking theMethod args0 :: below0 := rfl
set_option maxRecDepth 65536 in
theorem w_args : argsFit about1.vm theMethod args0 = true := by decide +kernel
set_option maxRecDepth 65536 in
theorem w_heap : heapFits about1 = true := by decide +kernel
set_option maxRecDepth 65536 in
theorem w_runnable : about1.curStatus? = some .runnable := by decide +kernel
set_option maxRecDepth 65536 in
theorem w_alone : about1.alone = true := by decide +kernel
set_option maxRecDepth 65536 in
theorem w_named : about1.methodNamed? x = some theMethod := by decide +kernel
set_option maxRecDepth 65536 in
theorem w_hears : about1.hears theMethod below0 = true := by decide +kernel
set_option maxRecDepth 65536 in
theorem w_ripe : about1.ripe theMethod args0 below0 = true := by decide +kernel
theorem w_running : about1.status = .running := rfl
set_option maxRecDepth 65536 in
theorem w_room : about1.hasRoom e0.platform room_1 = true :=
  launch0.hasRoom_least _ room_1 (by decide +kernel) (by decide +kernel) (by decide +kernel) (by decide +kernel) (by decide +kernel) (by decide +kernel)
theorem allAtoms_all (ts : List Jvm.Cond) (a : Array Jvm.Value) (st : Jvm.State) : (allAtoms ts).before a st = ts.all (fun c => c.before a st) := by
  induction ts with
  | nil => rfl
  | cons c t ih =>
    show (Jvm.Cond.and c (allAtoms t)).before a st = _
    rw [Jvm.Cond.before_and, ih, List.all_cons]
def words1 : List Jvm.Cond := Jvm.Cond.code x code maxLocals ret :: tables_1
/-- a 'code' word, met by the world's own term for the bytes: nothing is compared byte by byte -/
theorem code_word {y : MethodName} {bytes : ByteArray} {mx : Nat} {rt : Option FieldType} {a : Array Value} {s : State} {m : MethodId} {meth : Method} {c : Code} (h1 : s.methodNamed? y = some m) (h2 : s.vm.method? m = some meth) (h3 : meth.code = some c) (h4 : c.code = bytes)
    (h5 : (c.maxLocals == mx && c.exceptionTable.isEmpty && decide (c.maxStack ≤ mostOperands) && decide (meth.sig.returnType = rt) && !meth.locks && decide (parseMethodDescriptor y.desc = some meth.sig)) = true) : (Jvm.Cond.code y bytes mx rt).before a s = true := by
  simp only [Bool.and_eq_true, beq_iff_eq, Bool.not_eq_true', decide_eq_true_eq] at h5
  obtain ⟨⟨⟨⟨⟨g1, g2⟩, g3⟩, g4⟩, g5⟩, g6⟩ := h5
  simp [Cond.before, Cond.holds, Cond.value, h1, h2, h3, h4, g1, g2, g3, g4, g5, g6]
def isCode : Jvm.Cond → Bool
  | .code _ _ _ _ => true
  | _ => false
theorem all_split {L : List Jvm.Cond} {P : Jvm.Cond → Bool} (h1 : L.all (fun c => isCode c || P c) = true) (h2 : ∀ c ∈ L.filter isCode, P c = true) : L.all P = true := by
  refine List.all_eq_true.mpr fun c hc => ?_
  have h := List.all_eq_true.mp h1 c hc
  rcases Bool.eq_false_or_eq_true (isCode c) with hi | hi
  · exact h2 c (List.mem_filter.mpr ⟨hc, hi⟩)
  · simpa [hi] using h
set_option maxRecDepth 65536 in
theorem w_c0 : (Jvm.Cond.code x code maxLocals ret).before args0 about1 = true := code_word (m := ⟨1, 2⟩) (meth := k1m2) (c := k1c2) (by decide +kernel) rfl rfl rfl (by decide +kernel)
set_option maxRecDepth 65536 in
theorem w_c1 : (Jvm.Cond.code ({ cls := "com/example/strictwire/strictwire/ValueListHoldsOnlyPinLaw", name := "typeAt", desc := "(I)Lcom/example/strictwire/strictwire/WireType;" } : Jvm.MethodName) method_2_code (2 : Nat) (Option.some (Jvm.ClassFile.FieldType.object "com/example/strictwire/strictwire/WireType"))).before args0 about1 = true := code_word (m := ⟨1, 1⟩) (meth := k1m1) (c := k1c1) (by decide +kernel) rfl rfl rfl (by decide +kernel)
set_option maxRecDepth 65536 in
theorem w_c2 : (Jvm.Cond.code ({ cls := "com/example/strictwire/strictwire/I32Value", name := "<init>", desc := "(I)V" } : Jvm.MethodName) prog_15_method_1_code (2 : Nat) (Option.none : Option Jvm.ClassFile.FieldType)).before args0 about1 = true := code_word (m := ⟨9, 0⟩) (meth := k9m0) (c := k9c0) (by decide +kernel) rfl rfl rfl (by decide +kernel)
set_option maxRecDepth 65536 in
theorem w_c3 : (Jvm.Cond.code ({ cls := "java/lang/Record", name := "<init>", desc := "()V" } : Jvm.MethodName) jdk_30_method_1_code (1 : Nat) (Option.none : Option Jvm.ClassFile.FieldType)).before args0 about1 = true := code_word (m := ⟨8, 0⟩) (meth := k8m0) (c := k8c0) (by decide +kernel) rfl rfl rfl (by decide +kernel)
set_option maxRecDepth 65536 in
theorem w_c4 : (Jvm.Cond.code ({ cls := "java/lang/Object", name := "<init>", desc := "()V" } : Jvm.MethodName) object_method_1_code (1 : Nat) (Option.none : Option Jvm.ClassFile.FieldType)).before args0 about1 = true := code_word (m := ⟨0, 0⟩) (meth := k0m0) (c := k0c0) (by decide +kernel) rfl rfl rfl (by decide +kernel)
set_option maxRecDepth 65536 in
theorem w_c5 : (Jvm.Cond.code ({ cls := "java/util/ArrayList", name := "<init>", desc := "()V" } : Jvm.MethodName) jdk_38_method_2_code (1 : Nat) (Option.none : Option Jvm.ClassFile.FieldType)).before args0 about1 = true := code_word (m := ⟨18, 0⟩) (meth := k18m0) (c := k18c0) (by decide +kernel) rfl rfl rfl (by decide +kernel)
set_option maxRecDepth 65536 in
theorem w_c6 : (Jvm.Cond.code ({ cls := "java/util/AbstractList", name := "<init>", desc := "()V" } : Jvm.MethodName) jdk_39_method_1_code (1 : Nat) (Option.none : Option Jvm.ClassFile.FieldType)).before args0 about1 = true := code_word (m := ⟨15, 0⟩) (meth := k15m0) (c := k15c0) (by decide +kernel) rfl rfl rfl (by decide +kernel)
set_option maxRecDepth 65536 in
theorem w_c7 : (Jvm.Cond.code ({ cls := "java/util/AbstractCollection", name := "<init>", desc := "()V" } : Jvm.MethodName) jdk_22_method_1_code (1 : Nat) (Option.none : Option Jvm.ClassFile.FieldType)).before args0 about1 = true := code_word (m := ⟨12, 0⟩) (meth := k12m0) (c := k12c0) (by decide +kernel) rfl rfl rfl (by decide +kernel)
set_option maxRecDepth 65536 in
theorem w_c8 : (Jvm.Cond.code ({ cls := "java/util/ArrayList", name := "add", desc := "(Ljava/lang/Object;)Z" } : Jvm.MethodName) jdk_38_method_25_code (2 : Nat) (Option.some Jvm.ClassFile.FieldType.boolean)).before args0 about1 = true := code_word (m := ⟨18, 4⟩) (meth := k18m4) (c := k18c4) (by decide +kernel) rfl rfl rfl (by decide +kernel)
set_option maxRecDepth 65536 in
theorem w_c9 : (Jvm.Cond.code ({ cls := "java/util/ArrayList", name := "add", desc := "(Ljava/lang/Object;[Ljava/lang/Object;I)V" } : Jvm.MethodName) jdk_38_method_24_code (4 : Nat) (Option.none : Option Jvm.ClassFile.FieldType)).before args0 about1 = true := code_word (m := ⟨18, 3⟩) (meth := k18m3) (c := k18c3) (by decide +kernel) rfl rfl rfl (by decide +kernel)
set_option maxRecDepth 65536 in
theorem w_c10 : (Jvm.Cond.code ({ cls := "java/util/ArrayList", name := "grow", desc := "()[Ljava/lang/Object;" } : Jvm.MethodName) jdk_38_method_7_code (1 : Nat) (Option.some (Jvm.ClassFile.FieldType.array (Jvm.ClassFile.FieldType.object "java/lang/Object")))).before args0 about1 = true := code_word (m := ⟨18, 2⟩) (meth := k18m2) (c := k18c2) (by decide +kernel) rfl rfl rfl (by decide +kernel)
set_option maxRecDepth 65536 in
theorem w_c11 : (Jvm.Cond.code ({ cls := "java/util/ArrayList", name := "grow", desc := "(I)[Ljava/lang/Object;" } : Jvm.MethodName) jdk_38_method_6_code (4 : Nat) (Option.some (Jvm.ClassFile.FieldType.array (Jvm.ClassFile.FieldType.object "java/lang/Object")))).before args0 about1 = true := code_word (m := ⟨18, 1⟩) (meth := k18m1) (c := k18c1) (by decide +kernel) rfl rfl rfl (by decide +kernel)
set_option maxRecDepth 65536 in
theorem w_c12 : (Jvm.Cond.code ({ cls := "java/lang/Math", name := "max", desc := "(II)I" } : Jvm.MethodName) jdk_29_method_65_code (2 : Nat) (Option.some Jvm.ClassFile.FieldType.int)).before args0 about1 = true := code_word (m := ⟨19, 1⟩) (meth := k19m1) (c := k19c1) (by decide +kernel) rfl rfl rfl (by decide +kernel)
set_option maxRecDepth 65536 in
theorem w_c13 : (Jvm.Cond.code ({ cls := "com/example/strictwire/strictwire/ValueList", name := "holdsOnly", desc := "(Ljava/util/List;Lcom/example/strictwire/strictwire/WireType;)Z" } : Jvm.MethodName) prog_38_method_7_code (3 : Nat) (Option.some Jvm.ClassFile.FieldType.boolean)).before args0 about1 = true := code_word (m := ⟨20, 2⟩) (meth := k20m2) (c := k20c2) (by decide +kernel) rfl rfl rfl (by decide +kernel)
set_option maxRecDepth 65536 in
theorem w_c14 : (Jvm.Cond.code ({ cls := "com/example/strictwire/strictwire/ValueList", name := "ofElements", desc := "([Lcom/example/strictwire/strictwire/Value;Lcom/example/strictwire/strictwire/WireType;)Lcom/example/strictwire/strictwire/ValueList;" } : Jvm.MethodName) prog_38_method_3_code (2 : Nat) (Option.some (Jvm.ClassFile.FieldType.object "com/example/strictwire/strictwire/ValueList"))).before args0 about1 = true := code_word (m := ⟨20, 1⟩) (meth := k20m1) (c := k20c1) (by decide +kernel) rfl rfl rfl (by decide +kernel)
set_option maxRecDepth 65536 in
theorem w_c15 : (Jvm.Cond.code ({ cls := "com/example/strictwire/strictwire/ValueList", name := "<init>", desc := "([Ljava/lang/Object;ZLcom/example/strictwire/strictwire/WireType;)V" } : Jvm.MethodName) prog_38_method_1_code (4 : Nat) (Option.none : Option Jvm.ClassFile.FieldType)).before args0 about1 = true := code_word (m := ⟨20, 0⟩) (meth := k20m0) (c := k20c0) (by decide +kernel) rfl rfl rfl (by decide +kernel)
def codes1 : List Jvm.Cond := [Jvm.Cond.code x code maxLocals ret, Jvm.Cond.code ({ cls := "com/example/strictwire/strictwire/ValueListHoldsOnlyPinLaw", name := "typeAt", desc := "(I)Lcom/example/strictwire/strictwire/WireType;" } : Jvm.MethodName) method_2_code (2 : Nat) (Option.some (Jvm.ClassFile.FieldType.object "com/example/strictwire/strictwire/WireType")), Jvm.Cond.code ({ cls := "com/example/strictwire/strictwire/I32Value", name := "<init>", desc := "(I)V" } : Jvm.MethodName) prog_15_method_1_code (2 : Nat) (Option.none : Option Jvm.ClassFile.FieldType), Jvm.Cond.code ({ cls := "java/lang/Record", name := "<init>", desc := "()V" } : Jvm.MethodName) jdk_30_method_1_code (1 : Nat) (Option.none : Option Jvm.ClassFile.FieldType), Jvm.Cond.code ({ cls := "java/lang/Object", name := "<init>", desc := "()V" } : Jvm.MethodName) object_method_1_code (1 : Nat) (Option.none : Option Jvm.ClassFile.FieldType), Jvm.Cond.code ({ cls := "java/util/ArrayList", name := "<init>", desc := "()V" } : Jvm.MethodName) jdk_38_method_2_code (1 : Nat) (Option.none : Option Jvm.ClassFile.FieldType), Jvm.Cond.code ({ cls := "java/util/AbstractList", name := "<init>", desc := "()V" } : Jvm.MethodName) jdk_39_method_1_code (1 : Nat) (Option.none : Option Jvm.ClassFile.FieldType), Jvm.Cond.code ({ cls := "java/util/AbstractCollection", name := "<init>", desc := "()V" } : Jvm.MethodName) jdk_22_method_1_code (1 : Nat) (Option.none : Option Jvm.ClassFile.FieldType), Jvm.Cond.code ({ cls := "java/util/ArrayList", name := "add", desc := "(Ljava/lang/Object;)Z" } : Jvm.MethodName) jdk_38_method_25_code (2 : Nat) (Option.some Jvm.ClassFile.FieldType.boolean), Jvm.Cond.code ({ cls := "java/util/ArrayList", name := "add", desc := "(Ljava/lang/Object;[Ljava/lang/Object;I)V" } : Jvm.MethodName) jdk_38_method_24_code (4 : Nat) (Option.none : Option Jvm.ClassFile.FieldType), Jvm.Cond.code ({ cls := "java/util/ArrayList", name := "grow", desc := "()[Ljava/lang/Object;" } : Jvm.MethodName) jdk_38_method_7_code (1 : Nat) (Option.some (Jvm.ClassFile.FieldType.array (Jvm.ClassFile.FieldType.object "java/lang/Object"))), Jvm.Cond.code ({ cls := "java/util/ArrayList", name := "grow", desc := "(I)[Ljava/lang/Object;" } : Jvm.MethodName) jdk_38_method_6_code (4 : Nat) (Option.some (Jvm.ClassFile.FieldType.array (Jvm.ClassFile.FieldType.object "java/lang/Object"))), Jvm.Cond.code ({ cls := "java/lang/Math", name := "max", desc := "(II)I" } : Jvm.MethodName) jdk_29_method_65_code (2 : Nat) (Option.some Jvm.ClassFile.FieldType.int), Jvm.Cond.code ({ cls := "com/example/strictwire/strictwire/ValueList", name := "holdsOnly", desc := "(Ljava/util/List;Lcom/example/strictwire/strictwire/WireType;)Z" } : Jvm.MethodName) prog_38_method_7_code (3 : Nat) (Option.some Jvm.ClassFile.FieldType.boolean), Jvm.Cond.code ({ cls := "com/example/strictwire/strictwire/ValueList", name := "ofElements", desc := "([Lcom/example/strictwire/strictwire/Value;Lcom/example/strictwire/strictwire/WireType;)Lcom/example/strictwire/strictwire/ValueList;" } : Jvm.MethodName) prog_38_method_3_code (2 : Nat) (Option.some (Jvm.ClassFile.FieldType.object "com/example/strictwire/strictwire/ValueList")), Jvm.Cond.code ({ cls := "com/example/strictwire/strictwire/ValueList", name := "<init>", desc := "([Ljava/lang/Object;ZLcom/example/strictwire/strictwire/WireType;)V" } : Jvm.MethodName) prog_38_method_1_code (4 : Nat) (Option.none : Option Jvm.ClassFile.FieldType)]
set_option maxRecDepth 65536 in
theorem codes_eq : words1.filter isCode = codes1 := rfl
theorem w_codes : ∀ c ∈ words1.filter isCode, c.before args0 about1 = true := by
  rw [codes_eq]
  intro c hc
  simp only [codes1, List.mem_cons, List.not_mem_nil, or_false] at hc
  rcases hc with rfl | rfl | rfl | rfl | rfl | rfl | rfl | rfl | rfl | rfl | rfl | rfl | rfl | rfl | rfl | rfl
  · exact w_c0
  · exact w_c1
  · exact w_c2
  · exact w_c3
  · exact w_c4
  · exact w_c5
  · exact w_c6
  · exact w_c7
  · exact w_c8
  · exact w_c9
  · exact w_c10
  · exact w_c11
  · exact w_c12
  · exact w_c13
  · exact w_c14
  · exact w_c15
set_option maxRecDepth 65536 in
theorem w_t1 : (words1.take 24).all (fun c => isCode c || c.before args0 about1) = true := by decide +kernel
set_option maxRecDepth 65536 in
theorem w_t2 : ((words1.drop 24).take 24).all (fun c => isCode c || c.before args0 about1) = true := by decide +kernel
set_option maxRecDepth 65536 in
theorem w_t3 : (((words1.drop 24).drop 24).take 24).all (fun c => isCode c || c.before args0 about1) = true := by decide +kernel
set_option maxRecDepth 65536 in
theorem w_t4 : ((((words1.drop 24).drop 24).drop 24).take 24).all (fun c => isCode c || c.before args0 about1) = true := by decide +kernel
set_option maxRecDepth 65536 in
theorem w_t5 : (((((words1.drop 24).drop 24).drop 24).drop 24).take 24).all (fun c => isCode c || c.before args0 about1) = true := by decide +kernel
set_option maxRecDepth 65536 in
theorem w_t6 : (((((words1.drop 24).drop 24).drop 24).drop 24).drop 24).all (fun c => isCode c || c.before args0 about1) = true := by decide +kernel
theorem w_tables : (allAtoms (Jvm.Cond.code x code maxLocals ret :: tables_1)).before args0 about1 = true := by
  rw [allAtoms_all]
  show words1.all (fun c => c.before args0 about1) = true
  refine all_split ?_ w_codes
  rw [← List.take_append_drop 24 words1, List.all_append, w_t1, ← List.take_append_drop 24 (words1.drop 24), List.all_append, w_t2, ← List.take_append_drop 24 ((words1.drop 24).drop 24), List.all_append, w_t3, ← List.take_append_drop 24 (((words1.drop 24).drop 24).drop 24), List.all_append, w_t4, ← List.take_append_drop 24 ((((words1.drop 24).drop 24).drop 24).drop 24), List.all_append, w_t5, w_t6]
  rfl
set_option maxRecDepth 65536 in
theorem w_rest : rest_1_c.before args0 about1 = true := by decide +kernel
set_option maxRecDepth 65536 in
theorem w_case : (Jvm.Cond.and given_1 narrow_1).before args0 about1 = true := by decide +kernel
theorem w_applies : (headSpec (Jvm.Cond.code x code maxLocals ret :: tables_1) room_1).applies x e0.platform about1 = true :=
  (Spec.applies_iff w_frames).mpr ⟨w_running, w_runnable, w_alone, w_named, w_hears, w_ripe, w_room, w_tables⟩
theorem atStart : AtStart classFile x code maxLocals ret World_1 tables_1 room_1 Calls_1 rest_1 Pre_1 launch0 p0 e0 about1 theMethod args0 below0 :=
  ⟨lists_1, trivial, launch0.admits_env _ _ _, launch0.least_env, fairChoices_fair.cas, fairChoices_fair.clock, w_frames, w_args, w_heap, w_applies, trivial, w_rest, w_case⟩
end start1
theorem witness_1 : WitnessClaimed_1 := ⟨start1.p0, start1.e0, start1.about1, start1.theMethod, start1.args0, start1.below0, start1.atStart⟩
end Jvm.Pilot.@@N@@
