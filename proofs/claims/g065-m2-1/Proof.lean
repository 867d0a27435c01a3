import JvmDerived
import JvmDerived.Pilot.@@N@@Statement
import JvmDerived.Pilot.@@N@@Code
set_option linter.unusedVariables false
set_option linter.unusedSimpArgs false
namespace Jvm.Pilot.@@N@@
open Jvm Jvm.ClassFile Sem Op Lib Jvm.Free Jvm.Stand Jvm.LawKit Jvm.RoadKit Bundle Jvm.Pilot.@@N@@.Jvm.D
/-! THE WALK, SAID FORWARD: `G w Q h k n pc Ls st` says: from every point of the walk `w` whose heap is h, with k cells and n slots made, standing at pc with the locals Ls and the stack st, the run ends in a return that meets Q. One law a step carries G from the next point back to this one. -/
abbrev Wk := Program × Launch × Env × Room × State × MethodId × Array Value × List Frame × Method × Code × Nat
abbrev Wk.p (w : Wk) : Program := w.1
abbrev Wk.l (w : Wk) : Launch := w.2.1
abbrev Wk.e (w : Wk) : Env := w.2.2.1
abbrev Wk.R (w : Wk) : Room := w.2.2.2.1
abbrev Wk.s (w : Wk) : State := w.2.2.2.2.1
abbrev Wk.m (w : Wk) : MethodId := w.2.2.2.2.2.1
abbrev Wk.args (w : Wk) : Array Value := w.2.2.2.2.2.2.1
abbrev Wk.below (w : Wk) : List Frame := w.2.2.2.2.2.2.2.1
abbrev Wk.meth (w : Wk) : Method := w.2.2.2.2.2.2.2.2.1
abbrev Wk.c (w : Wk) : Code := w.2.2.2.2.2.2.2.2.2.1
abbrev Wk.n0 (w : Wk) : Nat := w.2.2.2.2.2.2.2.2.2.2
def Cx (w : Wk) (l : Launch) (Z : State) (own : String) (bytes : ByteArray) (mx : Nat) (rt : Option FieldType) (nm : String) (rm : Room) (n0 : Nat) : Prop :=
  w.l = l ∧ w.p.tables.exec = Jvm.exec ∧ Z.Warmed39 w.s.vm ∧ w.c.code = bytes ∧ w.c.maxLocals = mx ∧ w.s.vm.findClass own = some w.m.cls ∧ w.meth.sig.returnType = rt ∧ w.meth.locks = false ∧ w.meth.name = nm ∧ w.R = rm ∧ w.n0 = n0
def Ends (w : Wk) (Q : Option Value → Heap → Prop) (A : State) : Prop :=
  ∃ s₂ o, Steps w.p.tables w.e w.below A s₂ ∧ s₂.status = .running ∧ Ended s₂ w.below o ∧ ∃ v L, o = .returned v ∧ (Q v s₂.heap ∧ Fr w.n0 L) ∧ FrameEnd w.s o s₂ L w.R.cells w.R.slots
def G (w : Wk) (Q : Option Value → Heap → Prop) (h : Heap) (k n pc : Nat) (Ls : Array Slot) (st : List Value) : Prop :=
  ∀ (T : State) (locs : List Loc), Stand w.p w.l w.e w.R w.s w.m w.args w.below w.meth w.c T locs k n → T.heap = h → Fr w.n0 locs → Ends w Q (T.setTop (mkF w.m pc Ls st))
def Con (l : Launch) (Z : State) (y : MethodName) (bytes : ByteArray) (mx : Nat) (rt : Option FieldType) (rm : Room) (as : Array Value) (h : Heap) (n0 : Nat) (Q : Option Value → Heap → Prop) : Prop :=
  ∀ ws, MetFree l y (head1 (Jvm.Cond.code y bytes mx rt :: ws) rm) (fun a U => a = as ∧ Z.Warmed39 U.vm ∧ U.heap = h) (fun _ _ _ _ _ => True) (fun _ U o U' => ∃ v L, o = .returned v ∧ (Q v U'.heap ∧ Fr n0 L) ∧ FrameEnd U o U' L rm.cells rm.slots)
def psh (v : Option Value) (st : List Value) : List Value := match v with | none => st | some x => x :: st
theorem psh_eq (v : Option Value) (st : List Value) : v.toList ++ st = psh v st := by cases v <;> rfl
section Gs
variable {w : Wk} {l : Launch} {Z : State} {own : String} {bytes : ByteArray} {mx : Nat} {rt : Option FieldType} {nm : String} {rm : Room} {n0 : Nat} {Q : Option Value → Heap → Prop} {h : Heap} {k n pc pc' : Nat} {Ls Ls' : Array Slot} {st rest : List Value} {a0 : Array Value} {t : FieldType} {k' n' : Nat}
theorem Con.mk {y : MethodName} {as : Array Value} (hp : plainFor y = true) (hef : ∀ m, entryFrame m as mx = mkF m 0 Ls []) (body : ∀ w : Wk, Cx w l Z y.cls bytes mx rt y.name rm n0 → G w Q h 0 0 0 Ls []) : Con l Z y bytes mx rt rm as h n0 Q := by
  intro ws
  refine MetFree.of_bodySF hp hisR ?_
  intro p e s m args below meth c s₁ Bd hml0 hP hK
  obtain ⟨rfl, hZ, hh⟩ := hP
  have X0 : Stand p l e rm s m args below meth c s₁ [] 0 0 := Stand.of_body Bd
  have e0 : s₁.heap = h := by rw [← hh, Bd.state]; rfl
  obtain ⟨s₂, o, h1, h2, h3, h4⟩ := body (p, l, e, rm, s, m, args, below, meth, c, n0) ⟨rfl, Bd.exec, hZ, Bd.bytes, hml0, findClass_of_methodNamed Bd.named, Bd.returns, Bd.notSynchronized, (name_of_methodNamed Bd.named Bd.method).1, rfl, rfl⟩ s₁ [] X0 e0 (Fr.nil n0)
  exact ⟨s₂, o, castTop (hef m) h1, h2, h3, h4⟩
theorem Cx.ex (C : Cx w l Z own bytes mx rt nm rm n0) : w.p.tables.exec = Jvm.exec := C.2.1
theorem Cx.hZ (C : Cx w l Z own bytes mx rt nm rm n0) : Z.Warmed39 w.s.vm := C.2.2.1
theorem Cx.dec (C : Cx w l Z own bytes mx rt nm rm n0) {r : Except DecodeError (Instr × Nat)} (hd : decode bytes pc = r) : decode w.c.code pc = r := hb C.2.2.2.1 hd
theorem Cx.ow (C : Cx w l Z own bytes mx rt nm rm n0) : w.s.vm.findClass own = some w.m.cls := C.2.2.2.2.2.1
theorem Cx.ml (C : Cx w l Z own bytes mx rt nm rm n0) : w.c.maxLocals = mx := C.2.2.2.2.1
theorem Cx.ret (C : Cx w l Z own bytes mx rt nm rm n0) : w.meth.sig.returnType = rt := C.2.2.2.2.2.2.1
theorem Cx.lk (C : Cx w l Z own bytes mx rt nm rm n0) : w.meth.locks = false := C.2.2.2.2.2.2.2.1
theorem Cx.mn (C : Cx w l Z own bytes mx rt nm rm n0) : w.meth.name = nm := C.2.2.2.2.2.2.2.2.1
theorem Cx.ro (C : Cx w l Z own bytes mx rt nm rm n0) : w.R = rm := C.2.2.2.2.2.2.2.2.2.1
theorem Cx.nn (C : Cx w l Z own bytes mx rt nm rm n0) : w.n0 = n0 := C.2.2.2.2.2.2.2.2.2.2
theorem G.adv (st' : ∀ T locs, Stand w.p w.l w.e w.R w.s w.m w.args w.below w.meth w.c T locs k n → T.heap = h → ∀ t, Steps w.p.tables w.e w.below (T.setTop (mkF w.m pc' Ls' rest)) t → Steps w.p.tables w.e w.below (T.setTop (mkF w.m pc Ls st)) t) (g : G w Q h k n pc' Ls' rest) : G w Q h k n pc Ls st :=
  fun T locs X eT N => let ⟨s₂, o, h1, h2⟩ := g T locs X eT N; ⟨s₂, o, st' T locs X eT _ h1, h2⟩
theorem G.to {T T' : State} {locs' : List Loc} {h' : Heap} {k' n' : Nat} (X' : Stand w.p w.l w.e w.R w.s w.m w.args w.below w.meth w.c T' locs' k' n') (eT : T'.heap = h') (N : Fr w.n0 locs') (s' : ∀ t, Steps w.p.tables w.e w.below (T'.setTop (mkF w.m pc' Ls' rest)) t → Steps w.p.tables w.e w.below (T.setTop (mkF w.m pc Ls st)) t) (g : G w Q h' k' n' pc' Ls' rest) : Ends w Q (T.setTop (mkF w.m pc Ls st)) :=
  let ⟨s₂, o, h1, h2⟩ := g T' locs' X' eT N; ⟨s₂, o, s' _ h1, h2⟩
theorem G.more (hk : k ≤ k') (hn : n ≤ n') (g : G w Q h k' n' pc Ls st) : G w Q h k n pc Ls st := fun T locs X eT N => g T locs (X.more hk hn) eT N
/-! plain steps -/
theorem g_aloadN (C : Cx w l Z own bytes mx rt nm rm n0) {i : Fin 4} {v : Value} (hd : decode bytes pc = .ok (.aload_n i, 1)) (hl : Ls[i.val]? = some (.val v)) (hv : v.isRef = true) (hp : pc + 1 = pc') (g : G w Q h k n pc' Ls (v :: st)) : G w Q h k n pc Ls st := by
  subst hp; exact g.adv fun T locs X _ t r => XS.aloadN X.here C.ex rfl (C.dec hd) hl hv r
theorem g_aload (C : Cx w l Z own bytes mx rt nm rm n0) {i : Nat} {v : Value} (hd : decode bytes pc = .ok (.aload i, 2)) (hl : Ls[i]? = some (.val v)) (hv : v.isRef = true) (hp : pc + 2 = pc') (g : G w Q h k n pc' Ls (v :: st)) : G w Q h k n pc Ls st := by
  subst hp; exact g.adv fun T locs X _ t r => XS.aload X.here C.ex rfl (C.dec hd) hl hv r
theorem g_iloadN (C : Cx w l Z own bytes mx rt nm rm n0) {i : Fin 4} {v : Int32} (hd : decode bytes pc = .ok (.iload_n i, 1)) (hl : Ls[i.val]? = some (.val (.int v))) (hp : pc + 1 = pc') (g : G w Q h k n pc' Ls (.int v :: st)) : G w Q h k n pc Ls st := by
  subst hp; exact g.adv fun T locs X _ t r => XS.iloadN X.here C.ex rfl (C.dec hd) hl r
theorem g_iload (C : Cx w l Z own bytes mx rt nm rm n0) {i : Nat} {v : Int32} (hd : decode bytes pc = .ok (.iload i, 2)) (hl : Ls[i]? = some (.val (.int v))) (hp : pc + 2 = pc') (g : G w Q h k n pc' Ls (.int v :: st)) : G w Q h k n pc Ls st := by
  subst hp; exact g.adv fun T locs X _ t r => XS.iload X.here C.ex rfl (C.dec hd) hl r
theorem g_lloadN (C : Cx w l Z own bytes mx rt nm rm n0) {i : Fin 4} {v : Int64} (hd : decode bytes pc = .ok (.lload_n i, 1)) (hl : Ls[i.val]? = some (.val (.long v))) (hp : pc + 1 = pc') (g : G w Q h k n pc' Ls (.long v :: st)) : G w Q h k n pc Ls st := by
  subst hp; exact g.adv fun T locs X _ t r => XS.lloadN X.here C.ex rfl (C.dec hd) hl r
theorem g_lload (C : Cx w l Z own bytes mx rt nm rm n0) {i : Nat} {v : Int64} (hd : decode bytes pc = .ok (.lload i, 2)) (hl : Ls[i]? = some (.val (.long v))) (hp : pc + 2 = pc') (g : G w Q h k n pc' Ls (.long v :: st)) : G w Q h k n pc Ls st := by
  subst hp; exact g.adv fun T locs X _ t r => XS.lload X.here C.ex rfl (C.dec hd) hl r
theorem g_istoreN (C : Cx w l Z own bytes mx rt nm rm n0) {i : Fin 4} {x : Int32} (hd : decode bytes pc = .ok (.istore_n i, 1)) (hs : st = .int x :: rest) (hl : storeLocals Ls i.val (.int x) = some Ls') (hp : pc + 1 = pc') (g : G w Q h k n pc' Ls' rest) : G w Q h k n pc Ls st := by
  subst hp; exact g.adv fun T locs X _ t r => XS.istoreN X.here C.ex rfl (C.dec hd) hs hl r
theorem g_istore (C : Cx w l Z own bytes mx rt nm rm n0) {i : Nat} {x : Int32} (hd : decode bytes pc = .ok (.istore i, 2)) (hs : st = .int x :: rest) (hl : storeLocals Ls i (.int x) = some Ls') (hp : pc + 2 = pc') (g : G w Q h k n pc' Ls' rest) : G w Q h k n pc Ls st := by
  subst hp; exact g.adv fun T locs X _ t r => XS.istore X.here C.ex rfl (C.dec hd) hs hl r
theorem g_lstoreN (C : Cx w l Z own bytes mx rt nm rm n0) {i : Fin 4} {x : Int64} (hd : decode bytes pc = .ok (.lstore_n i, 1)) (hs : st = .long x :: rest) (hl : storeLocals Ls i.val (.long x) = some Ls') (hp : pc + 1 = pc') (g : G w Q h k n pc' Ls' rest) : G w Q h k n pc Ls st := by
  subst hp; exact g.adv fun T locs X _ t r => XS.lstoreN X.here C.ex rfl (C.dec hd) hs hl r
theorem g_lstore (C : Cx w l Z own bytes mx rt nm rm n0) {i : Nat} {x : Int64} (hd : decode bytes pc = .ok (.lstore i, 2)) (hs : st = .long x :: rest) (hl : storeLocals Ls i (.long x) = some Ls') (hp : pc + 2 = pc') (g : G w Q h k n pc' Ls' rest) : G w Q h k n pc Ls st := by
  subst hp; exact g.adv fun T locs X _ t r => XS.lstore X.here C.ex rfl (C.dec hd) hs hl r
theorem g_astoreN (C : Cx w l Z own bytes mx rt nm rm n0) {i : Fin 4} {x : Value} (hd : decode bytes pc = .ok (.astore_n i, 1)) (hs : st = x :: rest) (hv : x.isRef = true) (hl : storeLocals Ls i.val x = some Ls') (hp : pc + 1 = pc') (g : G w Q h k n pc' Ls' rest) : G w Q h k n pc Ls st := by
  subst hp; exact g.adv fun T locs X _ t r => XS.astoreN X.here C.ex rfl (C.dec hd) hs hv hl r
theorem g_astore (C : Cx w l Z own bytes mx rt nm rm n0) {i : Nat} {x : Value} (hd : decode bytes pc = .ok (.astore i, 2)) (hs : st = x :: rest) (hv : x.isRef = true) (hl : storeLocals Ls i x = some Ls') (hp : pc + 2 = pc') (g : G w Q h k n pc' Ls' rest) : G w Q h k n pc Ls st := by
  subst hp; exact g.adv fun T locs X _ t r => XS.astore X.here C.ex rfl (C.dec hd) hs hv hl r
theorem g_iinc (C : Cx w l Z own bytes mx rt nm rm n0) {i : Nat} {cst : Int} {x : Int32} (hd : decode bytes pc = .ok (.iinc i cst, 3)) (hl : Ls[i]? = some (.val (.int x))) (hl' : storeLocals Ls i (.int (x + Int32.ofInt cst)) = some Ls') (hp : pc + 3 = pc') (g : G w Q h k n pc' Ls' st) : G w Q h k n pc Ls st := by
  subst hp; exact g.adv fun T locs X _ t r => XS.iinc X.here C.ex rfl (C.dec hd) hl hl' r
theorem g_iconst (C : Cx w l Z own bytes mx rt nm rm n0) {i : Int} {v : Int32} (hd : decode bytes pc = .ok (.iconst i, 1)) (hv : Int32.ofInt i = v) (hp : pc + 1 = pc') (g : G w Q h k n pc' Ls (.int v :: st)) : G w Q h k n pc Ls st := by
  subst hp hv; exact g.adv fun T locs X _ t r => XS.iconst X.here C.ex rfl (C.dec hd) r
theorem g_bipush (C : Cx w l Z own bytes mx rt nm rm n0) {i : Int} {v : Int32} (hd : decode bytes pc = .ok (.bipush i, 2)) (hv : (Int8.ofInt i).toInt32 = v) (hp : pc + 2 = pc') (g : G w Q h k n pc' Ls (.int v :: st)) : G w Q h k n pc Ls st := by
  subst hp hv; exact g.adv fun T locs X _ t r => XS.bipush X.here C.ex rfl (C.dec hd) r
theorem g_sipush (C : Cx w l Z own bytes mx rt nm rm n0) {i : Int} {v : Int32} (hd : decode bytes pc = .ok (.sipush i, 3)) (hv : (Int16.ofInt i).toInt32 = v) (hp : pc + 3 = pc') (g : G w Q h k n pc' Ls (.int v :: st)) : G w Q h k n pc Ls st := by
  subst hp hv; exact g.adv fun T locs X _ t r => XS.sipush X.here C.ex rfl (C.dec hd) r
theorem g_lconst (C : Cx w l Z own bytes mx rt nm rm n0) {i : Fin 2} {v : Int64} (hd : decode bytes pc = .ok (.lconst i, 1)) (hv : Int64.ofNat i.val = v) (hp : pc + 1 = pc') (g : G w Q h k n pc' Ls (.long v :: st)) : G w Q h k n pc Ls st := by
  subst hp hv; exact g.adv fun T locs X _ t r => XS.lconst X.here C.ex rfl (C.dec hd) r
theorem g_aconstNull (C : Cx w l Z own bytes mx rt nm rm n0) (hd : decode bytes pc = .ok (.aconst_null, 1)) (hp : pc + 1 = pc') (g : G w Q h k n pc' Ls (.null :: st)) : G w Q h k n pc Ls st := by
  subst hp; exact g.adv fun T locs X _ t r => XS.aconstNull X.here C.ex rfl (C.dec hd) r
theorem g_ldcInt (C : Cx w l Z own bytes mx rt nm rm n0) {i : Nat} {v : Int32} (hw : (Jvm.Cond.constant own i v).before a0 Z = true) (hd : decode bytes pc = .ok (.ldc i, 2)) (hp : pc + 2 = pc') (g : G w Q h k n pc' Ls (.int v :: st)) : G w Q h k n pc Ls st := by
  subst hp; exact g.adv fun T locs X _ t r => X.ldcInt C.ex C.ow (mvT C.hZ hw) (g := mkF w.m pc Ls st) rfl (C.dec hd) t r
theorem g_ldc2Long (C : Cx w l Z own bytes mx rt nm rm n0) {i : Nat} {v : Int64} (hw : (Jvm.Cond.constantLong own i v).before a0 Z = true) (hd : decode bytes pc = .ok (.ldc2_w i, 3)) (hp : pc + 3 = pc') (g : G w Q h k n pc' Ls (.long v :: st)) : G w Q h k n pc Ls st := by
  subst hp; exact g.adv fun T locs X _ t r => X.ldc2Long C.ex C.ow (mvT C.hZ hw) (g := mkF w.m pc Ls st) rfl (C.dec hd) t r
theorem g_iadd (C : Cx w l Z own bytes mx rt nm rm n0) {x y : Int32} (hd : decode bytes pc = .ok (.iadd, 1)) (hs : st = .int y :: .int x :: rest) (hp : pc + 1 = pc') (g : G w Q h k n pc' Ls (.int (x + y) :: rest)) : G w Q h k n pc Ls st := by
  subst hp; exact g.adv fun T locs X _ t r => XS.iadd X.here C.ex rfl (C.dec hd) hs r
theorem g_isub (C : Cx w l Z own bytes mx rt nm rm n0) {x y : Int32} (hd : decode bytes pc = .ok (.isub, 1)) (hs : st = .int y :: .int x :: rest) (hp : pc + 1 = pc') (g : G w Q h k n pc' Ls (.int (x - y) :: rest)) : G w Q h k n pc Ls st := by
  subst hp; exact g.adv fun T locs X _ t r => XS.isub X.here C.ex rfl (C.dec hd) hs r
theorem g_imul (C : Cx w l Z own bytes mx rt nm rm n0) {x y : Int32} (hd : decode bytes pc = .ok (.imul, 1)) (hs : st = .int y :: .int x :: rest) (hp : pc + 1 = pc') (g : G w Q h k n pc' Ls (.int (x * y) :: rest)) : G w Q h k n pc Ls st := by
  subst hp; exact g.adv fun T locs X _ t r => XS.imul X.here C.ex rfl (C.dec hd) hs r
theorem g_iand (C : Cx w l Z own bytes mx rt nm rm n0) {x y : Int32} (hd : decode bytes pc = .ok (.iand, 1)) (hs : st = .int y :: .int x :: rest) (hp : pc + 1 = pc') (g : G w Q h k n pc' Ls (.int (x &&& y) :: rest)) : G w Q h k n pc Ls st := by
  subst hp; exact g.adv fun T locs X _ t r => XS.iand X.here C.ex rfl (C.dec hd) hs r
theorem g_ior (C : Cx w l Z own bytes mx rt nm rm n0) {x y : Int32} (hd : decode bytes pc = .ok (.ior, 1)) (hs : st = .int y :: .int x :: rest) (hp : pc + 1 = pc') (g : G w Q h k n pc' Ls (.int (x ||| y) :: rest)) : G w Q h k n pc Ls st := by
  subst hp; exact g.adv fun T locs X _ t r => XS.ior X.here C.ex rfl (C.dec hd) hs r
theorem g_ixor (C : Cx w l Z own bytes mx rt nm rm n0) {x y : Int32} (hd : decode bytes pc = .ok (.ixor, 1)) (hs : st = .int y :: .int x :: rest) (hp : pc + 1 = pc') (g : G w Q h k n pc' Ls (.int (x ^^^ y) :: rest)) : G w Q h k n pc Ls st := by
  subst hp; exact g.adv fun T locs X _ t r => XS.ixor X.here C.ex rfl (C.dec hd) hs r
theorem g_ladd (C : Cx w l Z own bytes mx rt nm rm n0) {x y : Int64} (hd : decode bytes pc = .ok (.ladd, 1)) (hs : st = .long y :: .long x :: rest) (hp : pc + 1 = pc') (g : G w Q h k n pc' Ls (.long (x + y) :: rest)) : G w Q h k n pc Ls st := by
  subst hp; exact g.adv fun T locs X _ t r => XS.ladd X.here C.ex rfl (C.dec hd) hs r
theorem g_lsub (C : Cx w l Z own bytes mx rt nm rm n0) {x y : Int64} (hd : decode bytes pc = .ok (.lsub, 1)) (hs : st = .long y :: .long x :: rest) (hp : pc + 1 = pc') (g : G w Q h k n pc' Ls (.long (x - y) :: rest)) : G w Q h k n pc Ls st := by
  subst hp; exact g.adv fun T locs X _ t r => XS.lsub X.here C.ex rfl (C.dec hd) hs r
theorem g_lmul (C : Cx w l Z own bytes mx rt nm rm n0) {x y : Int64} (hd : decode bytes pc = .ok (.lmul, 1)) (hs : st = .long y :: .long x :: rest) (hp : pc + 1 = pc') (g : G w Q h k n pc' Ls (.long (x * y) :: rest)) : G w Q h k n pc Ls st := by
  subst hp; exact g.adv fun T locs X _ t r => XS.lmul X.here C.ex rfl (C.dec hd) hs r
theorem g_land (C : Cx w l Z own bytes mx rt nm rm n0) {x y : Int64} (hd : decode bytes pc = .ok (.land, 1)) (hs : st = .long y :: .long x :: rest) (hp : pc + 1 = pc') (g : G w Q h k n pc' Ls (.long (x &&& y) :: rest)) : G w Q h k n pc Ls st := by
  subst hp; exact g.adv fun T locs X _ t r => XS.land X.here C.ex rfl (C.dec hd) hs r
theorem g_lor (C : Cx w l Z own bytes mx rt nm rm n0) {x y : Int64} (hd : decode bytes pc = .ok (.lor, 1)) (hs : st = .long y :: .long x :: rest) (hp : pc + 1 = pc') (g : G w Q h k n pc' Ls (.long (x ||| y) :: rest)) : G w Q h k n pc Ls st := by
  subst hp; exact g.adv fun T locs X _ t r => XS.lor X.here C.ex rfl (C.dec hd) hs r
theorem g_lxor (C : Cx w l Z own bytes mx rt nm rm n0) {x y : Int64} (hd : decode bytes pc = .ok (.lxor, 1)) (hs : st = .long y :: .long x :: rest) (hp : pc + 1 = pc') (g : G w Q h k n pc' Ls (.long (x ^^^ y) :: rest)) : G w Q h k n pc Ls st := by
  subst hp; exact g.adv fun T locs X _ t r => XS.lxor X.here C.ex rfl (C.dec hd) hs r
theorem g_ishl (C : Cx w l Z own bytes mx rt nm rm n0) {x y : Int32} (hd : decode bytes pc = .ok (.ishl, 1)) (hs : st = .int y :: .int x :: rest) (hp : pc + 1 = pc') (g : G w Q h k n pc' Ls (.int (x <<< (y &&& 31)) :: rest)) : G w Q h k n pc Ls st := by
  subst hp; exact g.adv fun T locs X _ t r => XS.ishl X.here C.ex rfl (C.dec hd) hs r
theorem g_ishr (C : Cx w l Z own bytes mx rt nm rm n0) {x y : Int32} (hd : decode bytes pc = .ok (.ishr, 1)) (hs : st = .int y :: .int x :: rest) (hp : pc + 1 = pc') (g : G w Q h k n pc' Ls (.int (x >>> (y &&& 31)) :: rest)) : G w Q h k n pc Ls st := by
  subst hp; exact g.adv fun T locs X _ t r => XS.ishr X.here C.ex rfl (C.dec hd) hs r
theorem g_iushr (C : Cx w l Z own bytes mx rt nm rm n0) {x y : Int32} (hd : decode bytes pc = .ok (.iushr, 1)) (hs : st = .int y :: .int x :: rest) (hp : pc + 1 = pc') (g : G w Q h k n pc' Ls (.int ((x.toUInt32 >>> (y &&& 31).toUInt32).toInt32) :: rest)) : G w Q h k n pc Ls st := by
  subst hp; exact g.adv fun T locs X _ t r => XS.iushr X.here C.ex rfl (C.dec hd) hs r
theorem g_ineg (C : Cx w l Z own bytes mx rt nm rm n0) {x : Int32} (hd : decode bytes pc = .ok (.ineg, 1)) (hs : st = .int x :: rest) (hp : pc + 1 = pc') (g : G w Q h k n pc' Ls (.int (-x) :: rest)) : G w Q h k n pc Ls st := by
  subst hp; exact g.adv fun T locs X _ t r => XS.ineg X.here C.ex rfl (C.dec hd) hs r
theorem g_lneg (C : Cx w l Z own bytes mx rt nm rm n0) {x : Int64} (hd : decode bytes pc = .ok (.lneg, 1)) (hs : st = .long x :: rest) (hp : pc + 1 = pc') (g : G w Q h k n pc' Ls (.long (-x) :: rest)) : G w Q h k n pc Ls st := by
  subst hp; exact g.adv fun T locs X _ t r => XS.lneg X.here C.ex rfl (C.dec hd) hs r
theorem g_i2l (C : Cx w l Z own bytes mx rt nm rm n0) {x : Int32} (hd : decode bytes pc = .ok (.i2l, 1)) (hs : st = .int x :: rest) (hp : pc + 1 = pc') (g : G w Q h k n pc' Ls (.long x.toInt64 :: rest)) : G w Q h k n pc Ls st := by
  subst hp; exact g.adv fun T locs X _ t r => XS.i2l X.here C.ex rfl (C.dec hd) hs r
theorem g_l2i (C : Cx w l Z own bytes mx rt nm rm n0) {x : Int64} (hd : decode bytes pc = .ok (.l2i, 1)) (hs : st = .long x :: rest) (hp : pc + 1 = pc') (g : G w Q h k n pc' Ls (.int x.toInt32 :: rest)) : G w Q h k n pc Ls st := by
  subst hp; exact g.adv fun T locs X _ t r => XS.l2i X.here C.ex rfl (C.dec hd) hs r
theorem g_i2b (C : Cx w l Z own bytes mx rt nm rm n0) {x : Int32} (hd : decode bytes pc = .ok (.i2b, 1)) (hs : st = .int x :: rest) (hp : pc + 1 = pc') (g : G w Q h k n pc' Ls (.int x.toInt8.toInt32 :: rest)) : G w Q h k n pc Ls st := by
  subst hp; exact g.adv fun T locs X _ t r => XS.i2b X.here C.ex rfl (C.dec hd) hs r
theorem g_i2s (C : Cx w l Z own bytes mx rt nm rm n0) {x : Int32} (hd : decode bytes pc = .ok (.i2s, 1)) (hs : st = .int x :: rest) (hp : pc + 1 = pc') (g : G w Q h k n pc' Ls (.int x.toInt16.toInt32 :: rest)) : G w Q h k n pc Ls st := by
  subst hp; exact g.adv fun T locs X _ t r => XS.i2s X.here C.ex rfl (C.dec hd) hs r
theorem g_i2c (C : Cx w l Z own bytes mx rt nm rm n0) {x : Int32} (hd : decode bytes pc = .ok (.i2c, 1)) (hs : st = .int x :: rest) (hp : pc + 1 = pc') (g : G w Q h k n pc' Ls (.int x.toUInt32.toUInt16.toUInt32.toInt32 :: rest)) : G w Q h k n pc Ls st := by
  subst hp; exact g.adv fun T locs X _ t r => XS.i2c X.here C.ex rfl (C.dec hd) hs r
theorem g_irem (C : Cx w l Z own bytes mx rt nm rm n0) {x y : Int32} (hd : decode bytes pc = .ok (.irem, 1)) (hs : st = .int y :: .int x :: rest) (hy : y ≠ 0) (hp : pc + 1 = pc') (g : G w Q h k n pc' Ls (.int (x % y) :: rest)) : G w Q h k n pc Ls st := by
  subst hp; exact g.adv fun T locs X _ t r => iremM (g := mkF w.m pc Ls st) X C.ex rfl (C.dec hd) hs hy r
theorem g_idiv (C : Cx w l Z own bytes mx rt nm rm n0) {x y : Int32} (hd : decode bytes pc = .ok (.idiv, 1)) (hs : st = .int y :: .int x :: rest) (hy : y ≠ 0) (hp : pc + 1 = pc') (g : G w Q h k n pc' Ls (.int (x / y) :: rest)) : G w Q h k n pc Ls st := by
  subst hp; exact g.adv fun T locs X _ t r => XS.idiv X.here C.ex rfl (C.dec hd) hs hy r
theorem g_ldiv (C : Cx w l Z own bytes mx rt nm rm n0) {x y : Int64} (hd : decode bytes pc = .ok (.ldiv, 1)) (hs : st = .long y :: .long x :: rest) (hy : y ≠ 0) (hp : pc + 1 = pc') (g : G w Q h k n pc' Ls (.long (x / y) :: rest)) : G w Q h k n pc Ls st := by
  subst hp; exact g.adv fun T locs X _ t r => XS.ldiv X.here C.ex rfl (C.dec hd) hs hy r
theorem g_lrem (C : Cx w l Z own bytes mx rt nm rm n0) {x y : Int64} (hd : decode bytes pc = .ok (.lrem, 1)) (hs : st = .long y :: .long x :: rest) (hy : y ≠ 0) (hp : pc + 1 = pc') (g : G w Q h k n pc' Ls (.long (x - (x / y) * y) :: rest)) : G w Q h k n pc Ls st := by
  subst hp; exact g.adv fun T locs X _ t r => XS.lrem X.here C.ex rfl (C.dec hd) hs hy r
theorem g_lcmp (C : Cx w l Z own bytes mx rt nm rm n0) {x y : Int64} (hd : decode bytes pc = .ok (.lcmp, 1)) (hs : st = .long y :: .long x :: rest) (hp : pc + 1 = pc') (g : G w Q h k n pc' Ls (.int (lcmpW x y) :: rest)) : G w Q h k n pc Ls st := by
  subst hp; exact g.adv fun T locs X _ t r => XS.lcmp X.here C.ex rfl (C.dec hd) hs r
theorem g_dup (C : Cx w l Z own bytes mx rt nm rm n0) {x : Value} (hd : decode bytes pc = .ok (.dup, 1)) (hs : st = x :: rest) (hc : x.category = 1) (hp : pc + 1 = pc') (g : G w Q h k n pc' Ls (x :: x :: rest)) : G w Q h k n pc Ls st := by
  subst hp; exact g.adv fun T locs X _ t r => XS.dup X.here C.ex rfl (C.dec hd) hs hc r
theorem g_pop (C : Cx w l Z own bytes mx rt nm rm n0) {x : Value} (hd : decode bytes pc = .ok (.pop, 1)) (hs : st = x :: rest) (hc : x.category = 1) (hp : pc + 1 = pc') (g : G w Q h k n pc' Ls rest) : G w Q h k n pc Ls st := by
  subst hp; exact g.adv fun T locs X _ t r => XS.pop X.here C.ex rfl (C.dec hd) hs hc r
theorem g_dup_x1 (C : Cx w l Z own bytes mx rt nm rm n0) {x y : Value} (hd : decode bytes pc = .ok (.dup_x1, 1)) (hs : st = x :: y :: rest) (hc : x.category = 1) (hc' : y.category = 1) (hp : pc + 1 = pc') (g : G w Q h k n pc' Ls (x :: y :: x :: rest)) : G w Q h k n pc Ls st := by
  subst hp; exact g.adv fun T locs X _ t r => XS.dupX1 X.here C.ex rfl (C.dec hd) hs hc hc' r
theorem g_dup2 (C : Cx w l Z own bytes mx rt nm rm n0) {x y : Value} (hd : decode bytes pc = .ok (.dup2, 1)) (hs : st = x :: y :: rest) (hc : x.category = 1) (hc' : y.category = 1) (hp : pc + 1 = pc') (g : G w Q h k n pc' Ls (x :: y :: x :: y :: rest)) : G w Q h k n pc Ls st := by
  subst hp; exact g.adv fun T locs X _ t r => XT.dup2 X.here C.ex rfl (C.dec hd) hs hc hc' r
theorem g_dup2L (C : Cx w l Z own bytes mx rt nm rm n0) {x : Int64} (hd : decode bytes pc = .ok (.dup2, 1)) (hs : st = .long x :: rest) (hp : pc + 1 = pc') (g : G w Q h k n pc' Ls (.long x :: .long x :: rest)) : G w Q h k n pc Ls st := by
  subst hp; exact g.adv fun T locs X _ t r => XT.dup2L X.here C.ex rfl (C.dec hd) hs r
theorem g_pop2L (C : Cx w l Z own bytes mx rt nm rm n0) {x : Int64} (hd : decode bytes pc = .ok (.pop2, 1)) (hs : st = .long x :: rest) (hp : pc + 1 = pc') (g : G w Q h k n pc' Ls rest) : G w Q h k n pc Ls st := by
  subst hp hs; exact g.adv fun T locs X _ t r => by
    have hx := C.ex
    have hd' := C.dec hd
    show Steps w.p.tables w.e w.below (T.setTop { method := w.m, pc := pc, locals := Ls, stack := _ :: rest, locked := none }) _
    jvm_step X.here [X.here.top, hx, hd', Value.category]
    exact r
theorem g_dup2_x2L (C : Cx w l Z own bytes mx rt nm rm n0) {x : Int64} {y : Int32} {z : Addr} (hd : decode bytes pc = .ok (.dup2_x2, 1)) (hs : st = .long x :: .int y :: .ref z :: rest) (hp : pc + 1 = pc') (g : G w Q h k n pc' Ls (.long x :: .int y :: .ref z :: .long x :: rest)) : G w Q h k n pc Ls st := by
  subst hp hs; exact g.adv fun T locs X _ t r => by
    have hx := C.ex
    have hd' := C.dec hd
    show Steps w.p.tables w.e w.below (T.setTop { method := w.m, pc := pc, locals := Ls, stack := _ :: _ :: _ :: rest, locked := none }) _
    jvm_step X.here [X.here.top, hx, hd', Value.category]
    exact r
theorem g_goto (C : Cx w l Z own bytes mx rt nm rm n0) {o : Int} (hd : decode bytes pc = .ok (.goto o, 3)) (ho : 0 ≤ (pc : Int) + o) (hp : ((pc : Int) + o).toNat = pc') (g : G w Q h k n pc' Ls st) : G w Q h k n pc Ls st :=
  g.adv fun T locs X _ t r => XS.goto X.here C.ex rfl (pc0 := pc) rfl (C.dec hd) ho hp r
theorem g_ifY (C : Cx w l Z own bytes mx rt nm rm n0) {cd : ClassFile.Cond} {o : Int} {x : Int32} (hd : decode bytes pc = .ok (.ifCond cd o, 3)) (hs : st = .int x :: rest) (hc : if_icmp.holds cd x 0 = true) (ho : 0 ≤ (pc : Int) + o) (hp : ((pc : Int) + o).toNat = pc') (g : G w Q h k n pc' Ls rest) : G w Q h k n pc Ls st :=
  g.adv fun T locs X _ t r => XS.ifYes X.here C.ex rfl (pc0 := pc) rfl (C.dec hd) hs ((if0 _ _).trans hc) ho hp r
theorem g_ifN (C : Cx w l Z own bytes mx rt nm rm n0) {cd : ClassFile.Cond} {o : Int} {x : Int32} (hd : decode bytes pc = .ok (.ifCond cd o, 3)) (hs : st = .int x :: rest) (hc : if_icmp.holds cd x 0 = false) (hp : pc + 3 = pc') (g : G w Q h k n pc' Ls rest) : G w Q h k n pc Ls st := by
  subst hp; exact g.adv fun T locs X _ t r => XS.ifNo X.here C.ex rfl (C.dec hd) hs ((if0 _ _).trans hc) r
theorem g_icY (C : Cx w l Z own bytes mx rt nm rm n0) {cd : ClassFile.Cond} {o : Int} {x y : Int32} (hd : decode bytes pc = .ok (.if_icmp cd o, 3)) (hs : st = .int y :: .int x :: rest) (hc : if_icmp.holds cd x y = true) (ho : 0 ≤ (pc : Int) + o) (hp : ((pc : Int) + o).toNat = pc') (g : G w Q h k n pc' Ls rest) : G w Q h k n pc Ls st :=
  g.adv fun T locs X _ t r => XS.icmpYes X.here C.ex rfl (pc0 := pc) rfl (C.dec hd) hs hc ho hp r
theorem g_icN (C : Cx w l Z own bytes mx rt nm rm n0) {cd : ClassFile.Cond} {o : Int} {x y : Int32} (hd : decode bytes pc = .ok (.if_icmp cd o, 3)) (hs : st = .int y :: .int x :: rest) (hc : if_icmp.holds cd x y = false) (hp : pc + 3 = pc') (g : G w Q h k n pc' Ls rest) : G w Q h k n pc Ls st := by
  subst hp; exact g.adv fun T locs X _ t r => XS.icmpNo X.here C.ex rfl (C.dec hd) hs hc r
/-- what a branch says, in plain words -/
def says (cd : ClassFile.Cond) (x y : Int32) : Prop := match cd with | .lt => x < y | .ge => ¬ x < y | .gt => y < x | .le => ¬ y < x | .eq => x = y | .ne => ¬ x = y
theorem says_t {cd : ClassFile.Cond} {x y : Int32} (q : says cd x y) : if_icmp.holds cd x y = true := by
  cases cd
  · exact (teq q).1
  · exact (feq q).2
  · exact (tlt q).1
  · exact (flt q).2.1
  · exact (tlt q).2.2.1
  · exact (flt q).2.2.2
theorem says_f {cd : ClassFile.Cond} {x y : Int32} (q : ¬ says cd x y) : if_icmp.holds cd x y = false := by
  cases cd
  · exact (feq q).1
  · exact (teq (Decidable.not_not.mp q)).2
  · exact (flt q).1
  · exact (tlt (Decidable.not_not.mp q)).2.1
  · exact (flt q).2.2.1
  · exact (tlt (Decidable.not_not.mp q)).2.2.2
theorem g_icB (C : Cx w l Z own bytes mx rt nm rm n0) {cd : ClassFile.Cond} {o : Int} {x y : Int32} {pcT : Nat} (hd : decode bytes pc = .ok (.if_icmp cd o, 3)) (hs : st = .int y :: .int x :: rest) (ho : 0 ≤ (pc : Int) + o) (hT : ((pc : Int) + o).toNat = pcT) (hp : pc + 3 = pc') (gy : says cd x y → G w Q h k n pcT Ls rest) (gn : ¬ says cd x y → G w Q h k n pc' Ls rest) : G w Q h k n pc Ls st := by
  by_cases q : says cd x y
  · exact g_icY C hd hs (says_t q) ho hT (gy q)
  · exact g_icN C hd hs (says_f q) hp (gn q)
theorem g_ifB (C : Cx w l Z own bytes mx rt nm rm n0) {cd : ClassFile.Cond} {o : Int} {x : Int32} {pcT : Nat} (hd : decode bytes pc = .ok (.ifCond cd o, 3)) (hs : st = .int x :: rest) (ho : 0 ≤ (pc : Int) + o) (hT : ((pc : Int) + o).toNat = pcT) (hp : pc + 3 = pc') (gy : says cd x 0 → G w Q h k n pcT Ls rest) (gn : ¬ says cd x 0 → G w Q h k n pc' Ls rest) : G w Q h k n pc Ls st := by
  by_cases q : says cd x 0
  · exact g_ifY C hd hs (says_t q) ho hT (gy q)
  · exact g_ifN C hd hs (says_f q) hp (gn q)
theorem g_ifnullY (C : Cx w l Z own bytes mx rt nm rm n0) {o : Int} (hd : decode bytes pc = .ok (.ifnull o, 3)) (hs : st = .null :: rest) (ho : 0 ≤ (pc : Int) + o) (hp : ((pc : Int) + o).toNat = pc') (g : G w Q h k n pc' Ls rest) : G w Q h k n pc Ls st :=
  g.adv fun T locs X _ t r => XS.ifnullYes X.here C.ex rfl (pc0 := pc) rfl (C.dec hd) hs ho hp r
theorem g_ifnullN (C : Cx w l Z own bytes mx rt nm rm n0) {o : Int} {b : Addr} (hd : decode bytes pc = .ok (.ifnull o, 3)) (hs : st = .ref b :: rest) (hp : pc + 3 = pc') (g : G w Q h k n pc' Ls rest) : G w Q h k n pc Ls st := by
  subst hp; exact g.adv fun T locs X _ t r => XS.ifnullNo X.here C.ex rfl (C.dec hd) hs r
theorem g_ifnonnullY (C : Cx w l Z own bytes mx rt nm rm n0) {o : Int} {b : Addr} (hd : decode bytes pc = .ok (.ifnonnull o, 3)) (hs : st = .ref b :: rest) (ho : 0 ≤ (pc : Int) + o) (hp : ((pc : Int) + o).toNat = pc') (g : G w Q h k n pc' Ls rest) : G w Q h k n pc Ls st :=
  g.adv fun T locs X _ t r => XS.ifnonnullYes X.here C.ex rfl (pc0 := pc) rfl (C.dec hd) hs ho hp r
theorem g_ifnonnullN (C : Cx w l Z own bytes mx rt nm rm n0) {o : Int} (hd : decode bytes pc = .ok (.ifnonnull o, 3)) (hs : st = .null :: rest) (hp : pc + 3 = pc') (g : G w Q h k n pc' Ls rest) : G w Q h k n pc Ls st := by
  subst hp; exact g.adv fun T locs X _ t r => XS.ifnonnullNo X.here C.ex rfl (C.dec hd) hs r
theorem g_acmp (C : Cx w l Z own bytes mx rt nm rm n0) {cd : ACond} {o : Int} {x y : Value} {same : Bool} (hd : decode bytes pc = .ok (.if_acmp cd o, 3)) (hs : st = y :: x :: rest) (h1 : x.isRef = true) (h2 : y.isRef = true) (hq : decide (x = y) = same) (ho : 0 ≤ (pc : Int) + o) (hp : pc' = if acV cd same = true then ((pc : Int) + o).toNat else pc + 3) (g : G w Q h k n pc' Ls rest) : G w Q h k n pc Ls st :=
  g.adv fun T locs X _ t r => Jvm.RoadKit.acmp (g := mkF w.m pc Ls st) X C.ex rfl h1 h2 (pc0 := pc) rfl (C.dec hd) hs hq ho hp r
theorem g_tsw (C : Cx w l Z own bytes mx rt nm rm n0) {df lo hi : Int} {offs : Array Int} {len : Nat} {o : Int} {i : Int32} (hd : decode bytes pc = .ok (.tableswitch df lo hi offs, len)) (hs : st = .int i :: rest) (hin : ¬ (i.toInt < lo ∨ i.toInt > hi)) (hoff : offs[(i.toInt - lo).toNat]? = some o) (ho : 0 ≤ (pc : Int) + o) (hp : ((pc : Int) + o).toNat = pc') (g : G w Q h k n pc' Ls rest) : G w Q h k n pc Ls st :=
  g.adv fun T locs X _ t r => XS.tswIn X.here C.ex rfl (pc0 := pc) rfl (C.dec hd) hs hin hoff ho hp r
theorem g_tswOut (C : Cx w l Z own bytes mx rt nm rm n0) {df lo hi : Int} {offs : Array Int} {len : Nat} {i : Int32} (hd : decode bytes pc = .ok (.tableswitch df lo hi offs, len)) (hs : st = .int i :: rest) (hin : i.toInt < lo ∨ i.toInt > hi) (ho : 0 ≤ (pc : Int) + df) (hp : ((pc : Int) + df).toNat = pc') (g : G w Q h k n pc' Ls rest) : G w Q h k n pc Ls st :=
  g.adv fun T locs X _ t r => XS.tswOut X.here C.ex rfl (pc0 := pc) rfl (C.dec hd) hs hin ho hp r
/-! the heap and the tables -/
theorem g_getF (C : Cx w l Z own bytes mx rt nm rm n0) {R0 O f d : String} {i : Nat} {a : Addr} {v : Value} (hw : (Jvm.Cond.fieldLink own i R0 f d).before a0 Z = true) (via : Via Z R0 O f d) (hd : decode bytes pc = .ok (.getfield i, 3)) (hs : st = .ref a :: rest) (F : Fld Z h a O f d v) (hp : pc + 3 = pc') (g : G w Q h k n pc' Ls (v :: rest)) : G w Q h k n pc Ls st := by
  subst hp; intro T locs X eT N
  obtain ⟨T', X', e', s'⟩ := getF X C.ex C.hZ C.ow (host := "") (Or.inl hw) via eT F (g := mkF w.m pc Ls st) rfl hs (C.dec hd)
  exact G.to X' e' N s' g
theorem g_getFN (C : Cx w l Z own bytes mx rt nm rm n0) {R0 O f d host : String} {i : Nat} {a : Addr} {v : Value} (hw : (Jvm.Cond.fieldLinkNest own i R0 f d host).before a0 Z = true) (via : Via Z R0 O f d) (hd : decode bytes pc = .ok (.getfield i, 3)) (hs : st = .ref a :: rest) (F : Fld Z h a O f d v) (hp : pc + 3 = pc') (g : G w Q h k n pc' Ls (v :: rest)) : G w Q h k n pc Ls st := by
  subst hp; intro T locs X eT N
  obtain ⟨T', X', e', s'⟩ := getF X C.ex C.hZ C.ow (Or.inr hw) via eT F (g := mkF w.m pc Ls st) rfl hs (C.dec hd)
  exact G.to X' e' N s' g
theorem g_getS (C : Cx w l Z own bytes mx rt nm rm n0) {R0 O f d : String} {i : Nat} {v : Value} (hw : (Jvm.Cond.fieldLink own i R0 f d).before a0 Z = true) (via : Via Z R0 O f d) (hd : decode bytes pc = .ok (.getstatic i, 3)) (F : Sta Z h O f d v) (hp : pc + 3 = pc') (g : G w Q h k n pc' Ls (v :: st)) : G w Q h k n pc Ls st := by
  subst hp; intro T locs X eT N
  obtain ⟨T', X', e', s'⟩ := getS2 X C.ex C.hZ C.ow (host := "") (Or.inl hw) via eT F (g := mkF w.m pc Ls st) rfl (C.dec hd)
  exact G.to X' e' N s' g
theorem g_getSN (C : Cx w l Z own bytes mx rt nm rm n0) {R0 O f d host : String} {i : Nat} {v : Value} (hw : (Jvm.Cond.fieldLinkNest own i R0 f d host).before a0 Z = true) (via : Via Z R0 O f d) (hd : decode bytes pc = .ok (.getstatic i, 3)) (F : Sta Z h O f d v) (hp : pc + 3 = pc') (g : G w Q h k n pc' Ls (v :: st)) : G w Q h k n pc Ls st := by
  subst hp; intro T locs X eT N
  obtain ⟨T', X', e', s'⟩ := getS2 X C.ex C.hZ C.ow (Or.inr hw) via eT F (g := mkF w.m pc Ls st) rfl (C.dec hd)
  exact G.to X' e' N s' g
theorem fr_snoc {L : List Loc} {a : Addr} {sl k : Nat} (N : Fr k L) (q : k ≤ a) : Fr k (L ++ [⟨a, sl⟩]) := N.app fun y hy => by cases List.mem_singleton.mp hy; exact q
theorem g_putF (C : Cx w l Z own bytes mx rt nm rm n0) {R0 O f d K : String} {i kk : Nat} {ty : FieldType} {a : Addr} {v old : Value} (hw : (Jvm.Cond.fieldLink own i R0 f d).before a0 Z = true) (via : Via Z R0 O f d) (hd : decode bytes pc = .ok (.putfield i, 3)) (hs : st = v :: .ref a :: rest) (F : Fld Z h a O f d old) (E : Exa Z h a K) (La : (Jvm.Cond.lays K O f d).before a0 Z = true ∨ ((Jvm.Cond.laysFinal K O f d).before a0 Z = true ∧ own = O ∧ nm = "<init>")) (wi : (Jvm.Cond.instantiable K kk).before a0 Z = true) (hty : parseFieldDescriptor d = some ty) (hn : narrow ty v = v) (hf : fits ty v = true) (ge : n0 ≤ a) (hp : pc + 3 = pc')
    (g : ∀ h', Wr h h' a (Jvm.RoadKit.slotOf Z O f d) v → G w Q h' k n pc' Ls rest) : G w Q h k n pc Ls st := by
  subst hp; intro T locs X eT N
  obtain ⟨T', h', X', e', W, s'⟩ := putF X C.ex C.hZ C.ow (host := "") (Or.inl hw) via eT F E (La.imp id fun q => ⟨q.1, q.2.1, C.mn.trans q.2.2⟩) wi hty hn hf (g := mkF w.m pc Ls st) rfl hs (C.dec hd)
  exact G.to X' e' (fr_snoc N (C.nn ▸ ge)) s' (g h' W)
theorem g_putFN (C : Cx w l Z own bytes mx rt nm rm n0) {R0 O f d K : String} {i kk : Nat} {ty : FieldType} {a : Addr} {v v' old : Value} (hw : (Jvm.Cond.fieldLink own i R0 f d).before a0 Z = true) (via : Via Z R0 O f d) (hd : decode bytes pc = .ok (.putfield i, 3)) (hs : st = v :: .ref a :: rest) (F : Fld Z h a O f d old) (E : Exa Z h a K) (La : (Jvm.Cond.lays K O f d).before a0 Z = true ∨ ((Jvm.Cond.laysFinal K O f d).before a0 Z = true ∧ own = O ∧ nm = "<init>")) (wi : (Jvm.Cond.instantiable K kk).before a0 Z = true) (hty : parseFieldDescriptor d = some ty) (hn : narrow ty v = v') (hf : fits ty v' = true) (ge : n0 ≤ a) (hp : pc + 3 = pc')
    (g : ∀ h', Wr h h' a (Jvm.RoadKit.slotOf Z O f d) v' → G w Q h' k n pc' Ls rest) : G w Q h k n pc Ls st := by
  subst hp; intro T locs X eT N
  obtain ⟨T', h', X', e', W, s'⟩ := putFN X C.ex C.hZ C.ow hw via eT F E (La.imp id fun q => ⟨q.1, q.2.1, C.mn.trans q.2.2⟩) wi hty hn hf (g := mkF w.m pc Ls st) rfl hs (C.dec hd)
  exact G.to X' e' (fr_snoc N (C.nn ▸ ge)) s' (g h' W)
theorem g_new (C : Cx w l Z own bytes mx rt nm rm n0) {K : String} {i ns : Nat} (hw : (Jvm.Cond.classLink own i K).before a0 Z = true) (wi : (Jvm.Cond.instantiable K ns).before a0 Z = true) (wz : (Jvm.Cond.initialized K).before a0 Z = true) (hd : decode bytes pc = .ok (.new i, 3)) (hc : k' ≤ rm.cells) (hl : n' ≤ rm.slots) (ek : k + 1 = k') (en : n + ns = n') (hp : pc + 3 = pc')
    (g : ∀ h' a, a = h.size → Ext h h' → Exa Z h' a K → (∀ {O f d : String} {ty : FieldType}, Laid Z a0 K O f d → parseFieldDescriptor d = some ty → Fld Z h' a O f d (defaultValue ty)) → G w Q h' k' n' pc' Ls (.ref a :: st)) : G w Q h k n pc Ls st := by
  subst hp ek en; intro T locs X eT N
  obtain ⟨T', h', X', e', E, A, D, -, s'⟩ := newO X C.ex C.hZ C.ow hw wi wz eT (g := mkF w.m pc Ls st) rfl (C.dec hd) (by rw [C.ro]; exact hc) (by rw [C.ro]; exact hl)
  exact G.to X' e' N s' (g h' _ rfl E A D)
theorem g_initO (C : Cx w l Z own bytes mx rt nm rm n0) {i : Nat} {a : Addr} (hw : (Jvm.Cond.methodLink own i Lib.objectInit).before a0 Z = true) (w2 : (Jvm.Cond.instanceMethod Lib.objectInit).before a0 Z = true) (w3 : (Jvm.Cond.code Lib.objectInit ⟨#[0xb1]⟩ 1 none).before a0 Z = true) (hd : decode bytes pc = .ok (.invokespecial i, 3)) (hs : st = .ref a :: rest) (hz : Ls.size = mx) (hf : 1 ≤ rm.frames) (hl : (rest.map fun v => v.category).sum + 12 ≤ rm.locals) (hp : pc + 3 = pc') (g : G w Q h k n pc' Ls rest) : G w Q h k n pc Ls st := by
  subst hp; intro T locs X eT N
  obtain ⟨T', X', e', s'⟩ := initO X C.ex C.hZ C.ow hw w2 w3 eT (g := mkF w.m pc Ls st) rfl (hz.trans C.ml.symm) hs (C.dec hd) (by rw [C.ro]; exact hf) (W := (rest.map fun v => v.category).sum) (by show 2 * 0 + _ ≤ _; omega) (by rw [C.ro]; exact hl)
  exact G.to X' e' N s' g
theorem g_cast (C : Cx w l Z own bytes mx rt nm rm n0) {K : String} {i : Nat} {a : Addr} (hw : (Jvm.Cond.classLink own i K).before a0 Z = true) (hd : decode bytes pc = .ok (.checkcast i, 3)) (hs : st = .ref a :: rest) (F : Ins Z h a K true) (hp : pc + 3 = pc') (g : G w Q h k n pc' Ls st) : G w Q h k n pc Ls st := by
  subst hp; intro T locs X eT N
  obtain ⟨T', X', e', s'⟩ := castY X C.ex C.hZ C.ow hw eT F (g := mkF w.m pc Ls st) rfl hs (C.dec hd)
  exact G.to X' e' N s' g
theorem g_instY (C : Cx w l Z own bytes mx rt nm rm n0) {K : String} {i : Nat} {a : Addr} (hw : (Jvm.Cond.classLink own i K).before a0 Z = true) (hd : decode bytes pc = .ok (.instanceof i, 3)) (hs : st = .ref a :: rest) (F : Ins Z h a K true) (hp : pc + 3 = pc') (g : G w Q h k n pc' Ls (.int 1 :: rest)) : G w Q h k n pc Ls st := by
  subst hp; intro T locs X eT N
  obtain ⟨T', X', e', s'⟩ := instY X C.ex C.hZ C.ow hw eT F (g := mkF w.m pc Ls st) rfl hs (C.dec hd)
  exact G.to X' e' N s' g
theorem g_instN (C : Cx w l Z own bytes mx rt nm rm n0) {K B : String} {i : Nat} {a : Addr} (hw : (Jvm.Cond.classLink own i K).before a0 Z = true) (hd : decode bytes pc = .ok (.instanceof i, 3)) (hs : st = .ref a :: rest) (E : Exa Z h a B) (F : ∃ c t, Z.vm.findClass B = some c ∧ Z.vm.findClass K = some t ∧ Z.vm.assignable c t = false) (hp : pc + 3 = pc') (g : G w Q h k n pc' Ls (.int 0 :: rest)) : G w Q h k n pc Ls st := by
  subst hp; intro T locs X eT N
  obtain ⟨T', X', e', s'⟩ := instNo X C.ex C.hZ C.ow hw eT E F (g := mkF w.m pc Ls st) rfl hs (C.dec hd)
  exact G.to X' e' N s' g
theorem g_newP (C : Cx w l Z own bytes mx rt nm rm n0) {aty : ArrayType} {z : Int32} {cap : Nat} (hw : (Jvm.Cond.arrayClass (newarray.typeOf aty)).before a0 Z = true) (hd : decode bytes pc = .ok (.newarray aty, 2)) (hs : st = .int z :: rest) (hn : ¬ z < 0) (hcap : z.toNatClampNeg ≤ cap) (hb' : cap * 8 ≤ 536870912) (hc : k' ≤ rm.cells) (hl : n' ≤ rm.slots) (ek : k + 1 = k') (en : n + cap = n') (hp : pc + 2 = pc')
    (g : ∀ h' a kA, a = h.size → Ext h h' → Arv Z h' a kA (newarray.typeOf aty) z [] (defaultValue (newarray.typeOf aty)) → G w Q h' k' n' pc' Ls (.ref a :: rest)) : G w Q h k n pc Ls st := by
  subst hp ek en; intro T locs X eT N
  obtain ⟨T', h', kA, X', e', E, A, s'⟩ := newP X C.ex C.hZ hw eT (g := mkF w.m pc Ls st) rfl (C.dec hd) hs hn hcap hb' (by rw [C.ro]; exact hc) (by rw [C.ro]; exact hl)
  exact G.to X' e' N s' (g h' _ kA rfl E (Arv.new A hn))
theorem g_newR (C : Cx w l Z own bytes mx rt nm rm n0) {K : String} {i : Nat} {z : Int32} {cap : Nat} (hw : (Jvm.Cond.classLink own i K).before a0 Z = true) (w2 : (Jvm.Cond.arrayOver (.object K)).before a0 Z = true) (hd : decode bytes pc = .ok (.anewarray i, 3)) (hs : st = .int z :: rest) (hn : ¬ z < 0) (hcap : z.toNatClampNeg ≤ cap) (hb' : cap * 8 ≤ 536870912) (hc : k' ≤ rm.cells) (hl : n' ≤ rm.slots) (ek : k + 1 = k') (en : n + cap = n') (hp : pc + 3 = pc')
    (g : ∀ h' a kA, a = h.size → Ext h h' → Arv Z h' a kA (.object K) z [] .null → Ovr Z kA K → G w Q h' k' n' pc' Ls (.ref a :: rest)) : G w Q h k n pc Ls st := by
  subst hp ek en; intro T locs X eT N
  obtain ⟨T', h', kA, X', e', E, A, O, s'⟩ := newR X C.ex C.hZ C.ow hw w2 eT (g := mkF w.m pc Ls st) rfl (C.dec hd) hs hn hcap hb' (by rw [C.ro]; exact hc) (by rw [C.ro]; exact hl)
  exact G.to X' e' N s' (g h' _ kA rfl E (Arv.new A hn) O)
theorem g_newPE (C : Cx w l Z own bytes mx rt nm rm n0) {aty : ArrayType} {z : Int32} {cap : Nat} {ad : String} (hw : (Jvm.Cond.arrayClass (newarray.typeOf aty)).before a0 Z = true) (had : "[" ++ (newarray.typeOf aty).toString = ad) (hd : decode bytes pc = .ok (.newarray aty, 2)) (hs : st = .int z :: rest) (hn : ¬ z < 0) (hcap : z.toNatClampNeg ≤ cap) (hb' : cap * 8 ≤ 536870912) (hc : k' ≤ rm.cells) (hl : n' ≤ rm.slots) (ek : k + 1 = k') (en : n + cap = n') (hp : pc + 2 = pc')
    (g : ∀ h' a kA, a = h.size → Ext h h' → Arv Z h' a kA (newarray.typeOf aty) z [] (defaultValue (newarray.typeOf aty)) → Exa Z h' a ad → G w Q h' k' n' pc' Ls (.ref a :: rest)) : G w Q h k n pc Ls st := by
  subst hp ek en; intro T locs X eT N
  obtain ⟨T', h', kA, X', e', E, A, B, s'⟩ := newPE X C.ex C.hZ hw eT (g := mkF w.m pc Ls st) rfl (C.dec hd) hs hn hcap hb' (by rw [C.ro]; exact hc) (by rw [C.ro]; exact hl) had
  exact G.to X' e' N s' (g h' _ kA rfl E (Arv.new A hn) B)
theorem g_newRA (C : Cx w l Z own bytes mx rt nm rm n0) {K ad : String} {i : Nat} {ty : FieldType} {z : Int32} {cap : Nat} (hC : (FieldType.array ty).toString = K) (had : "[" ++ K = ad) (hw : (Jvm.Cond.classLink own i K).before a0 Z = true) (w2 : (Jvm.Cond.arrayOver (.array ty)).before a0 Z = true) (hd : decode bytes pc = .ok (.anewarray i, 3)) (hs : st = .int z :: rest) (hn : ¬ z < 0) (hcap : z.toNatClampNeg ≤ cap) (hb' : cap * 8 ≤ 536870912) (hc : k' ≤ rm.cells) (hl : n' ≤ rm.slots) (ek : k + 1 = k') (en : n + cap = n') (hp : pc + 3 = pc')
    (g : ∀ h' a kA, a = h.size → Ext h h' → Arv Z h' a kA (.array ty) z [] .null → Exa Z h' a ad → OvrA Z kA ty K → G w Q h' k' n' pc' Ls (.ref a :: rest)) : G w Q h k n pc Ls st := by
  subst hp ek en; intro T locs X eT N
  obtain ⟨T', h', kA, X', e', E, A, B, O, s'⟩ := newRA X C.ex C.hZ C.ow hC hw w2 eT (g := mkF w.m pc Ls st) rfl (C.dec hd) hs hn hcap hb' (by rw [C.ro]; exact hc) (by rw [C.ro]; exact hl) had
  exact G.to X' e' N s' (g h' _ kA rfl E (Arv.new A hn) B O)
theorem stoA {h : Heap} {a y : Addr} {kA : ClassId} {t0 ty : FieldType} {K : String} {z : Int32} {vs : List Value} {dv : Value} (A : Arv Z h a kA t0 z vs dv) (O : OvrA Z kA ty K) (E : Exa Z h y K) : Sto Z h a (.ref y) := by
  obtain ⟨c, Ar, q, -⟩ := A; exact Sto.ofVA Ar q O (Ins.self E)
theorem stoR {h : Heap} {a y : Addr} {kA : ClassId} {t0 : FieldType} {K : String} {z : Int32} {vs : List Value} {dv : Value} (A : Arv Z h a kA t0 z vs dv) (O : Ovr Z kA K) (I : Ins Z h y K true) : Sto Z h a (.ref y) := by
  obtain ⟨c, Ar, q, -⟩ := A; exact Sto.ofV Ar q O I
theorem g_cpA (C : Cx w l Z own bytes mx rt nm rm n0) {i : Nat} {a b : Addr} {k1 k2 : ClassId} {ty ty' : FieldType} {z z' sp dp nn : Int32} {vs vd us : List Value} {dv dd : Value}
    (w1 : (Jvm.Cond.methodLink own i Jvm.Stand.acN).before a0 Z = true) (w2 : (Jvm.Cond.native Jvm.Stand.acN).before a0 Z = true) (w3 : (Jvm.Cond.static Jvm.Stand.acN).before a0 Z = true) (w4 : (Jvm.Cond.initialized "java/lang/System").before a0 Z = true)
    (hd : decode bytes pc = .ok (.invokestatic i, 3)) (hs : st = .int nn :: .int dp :: .ref b :: .int sp :: .ref a :: rest) (hz : Ls.size = mx) (A : Arv Z h a k1 ty z vs dv) (B : Arv Z h b k2 ty' z' vd dd) (hty : (ty = ty' ∧ refKind ty = false) ∨ (refKind ty = true ∧ refKind ty' = true ∧ StoL Z h b us))
    (h1 : ¬ sp < 0) (h2 : ¬ dp < 0) (h3 : ¬ nn < 0) (h4 : sp.toNatClampNeg + nn.toNatClampNeg ≤ z.toNatClampNeg) (h5 : dp.toNatClampNeg + nn.toNatClampNeg ≤ z'.toNatClampNeg) (hus : us = (List.range nn.toNatClampNeg).map fun i => vs.getD (sp.toNatClampNeg + i) dv) (hlen : dp.toNatClampNeg + nn.toNatClampNeg ≤ vd.length) (ge : n0 ≤ b)
    (hf : 1 ≤ rm.frames) (hlo : (rest.map fun v => v.category).sum + (nativeFrameWords "java/lang/System" "arraycopy" 5 + 11) ≤ rm.locals) (hp : pc + 3 = pc')
    (g : ∀ h', Keep h h' [b] → Arv Z h' b k2 ty' z' (vd.take dp.toNatClampNeg ++ us ++ vd.drop (dp.toNatClampNeg + nn.toNatClampNeg)) dd → G w Q h' k n pc' Ls rest) : G w Q h k n pc Ls st := by
  subst hp; intro T locs X eT N
  obtain ⟨T', h', L, X', e', N', K, A', s'⟩ := cpA X C.ex C.hZ C.ow w1 w2 w3 w4 eT A B hty h1 h2 h3 h4 h5 hus hlen (n0 := w.n0) N (C.nn ▸ ge) (g := mkF w.m pc Ls st) rfl (hz.trans C.ml.symm) hs (C.dec hd) (by rw [C.ro]; exact hf) (W := (rest.map fun v => v.category).sum) (by show 2 * 0 + _ ≤ _; omega) (by rw [C.ro]; exact hlo)
  exact G.to X' e' N' s' (g h' K A')
/-! arrays by their values: an array fact (Arv) with a list of all its values -/
theorem arv_inb {a : Addr} {kA : ClassId} {ty : FieldType} {z j : Int32} {vs : List Value} {dv : Value} (A : Arv Z h a kA ty z vs dv) (q1 : ¬ j < 0) (q2 : j < z) : ∃ cl, Arr Z h a cl ty ∧ ¬ (j < 0 ∨ cl.slots.size ≤ j.toNatClampNeg) ∧ cl.slots[j.toNatClampNeg]? = some (vs.getD j.toNatClampNeg dv) := by
  obtain ⟨cl, Ar, -, S, -, H, -⟩ := A
  have hi := inb_of S ⟨q1, q2⟩
  exact ⟨cl, Ar, hi, H.at hi rfl⟩
theorem arv_put {h' : Heap} {a : Addr} {kA : ClassId} {ty : FieldType} {z j : Int32} {vs : List Value} {dv v : Value} (A : Arv Z h a kA ty z vs dv) (hv : fits ty v = true) (W : Wr h h' a j.toNatClampNeg v) {i : Nat} (hj : j.toNatClampNeg = i) (hi : i < vs.length) : Arv Z h' a kA ty z (vs.set i v) dv := by
  obtain ⟨cl, Ar, q1, S, q3, H, F⟩ := A
  exact Arv.set Ar q1 S q3 H F hv W i hj hi

theorem g_iaload (C : Cx w l Z own bytes mx rt nm rm n0) {a : Addr} {kA : ClassId} {z j : Int32} {vs : List Value} {dv : Value} {x : Int32} (hd : decode bytes pc = .ok (.iaload, 1)) (hs : st = .int j :: .ref a :: rest) (A : Arv Z h a kA .int z vs dv) (q1 : ¬ j < 0) (q2 : j < z) (hv : vs.getD j.toNatClampNeg dv = .int x) (hp : pc + 1 = pc') (g : G w Q h k n pc' Ls (.int x :: rest)) : G w Q h k n pc Ls st := by
  subst hp; intro T locs X eT N
  obtain ⟨cl, Ar, hi, hg⟩ := arv_inb A q1 q2
  rw [hv] at hg
  exact G.to X eT N (fun t r => X.iaload C.ex (j := j) (v := .int x) (by rw [eT]; exact Ar.1) (State.isArrayOf_alike C.hZ.alike Ar.2.1) Ar.2.2 hi hg (g := mkF w.m pc Ls st) rfl hs (C.dec hd) _ r) g
theorem g_laload (C : Cx w l Z own bytes mx rt nm rm n0) {a : Addr} {kA : ClassId} {z j : Int32} {vs : List Value} {dv : Value} {x : Int64} (hd : decode bytes pc = .ok (.laload, 1)) (hs : st = .int j :: .ref a :: rest) (A : Arv Z h a kA .long z vs dv) (q1 : ¬ j < 0) (q2 : j < z) (hv : vs.getD j.toNatClampNeg dv = .long x) (hp : pc + 1 = pc') (g : G w Q h k n pc' Ls (.long x :: rest)) : G w Q h k n pc Ls st := by
  subst hp; intro T locs X eT N
  obtain ⟨cl, Ar, hi, hg⟩ := arv_inb A q1 q2
  rw [hv] at hg
  exact G.to X eT N (fun t r => X.laload C.ex (j := j) (v := .long x) (by rw [eT]; exact Ar.1) (State.isArrayOf_alike C.hZ.alike Ar.2.1) Ar.2.2 hi hg (g := mkF w.m pc Ls st) rfl hs (C.dec hd) _ r) g
theorem g_baload (C : Cx w l Z own bytes mx rt nm rm n0) {a : Addr} {kA : ClassId} {z j : Int32} {vs : List Value} {dv : Value} {x : Int32} (hd : decode bytes pc = .ok (.baload, 1)) (hs : st = .int j :: .ref a :: rest) (A : Arv Z h a kA .byte z vs dv) (q1 : ¬ j < 0) (q2 : j < z) (hv : vs.getD j.toNatClampNeg dv = .int x) (hp : pc + 1 = pc') (g : G w Q h k n pc' Ls (.int x :: rest)) : G w Q h k n pc Ls st := by
  subst hp; intro T locs X eT N
  obtain ⟨cl, Ar, hi, hg⟩ := arv_inb A q1 q2
  rw [hv] at hg
  exact G.to X eT N (fun t r => X.baloadBytes C.ex (j := j) (v := .int x) (by rw [eT]; exact Ar.1) (State.isArrayOf_alike C.hZ.alike Ar.2.1) Ar.2.2 hi hg (g := mkF w.m pc Ls st) rfl hs (C.dec hd) _ r) g
theorem g_aaload (C : Cx w l Z own bytes mx rt nm rm n0) {a : Addr} {kA : ClassId} {ty : FieldType} {z j : Int32} {vs : List Value} {dv x : Value} (hd : decode bytes pc = .ok (.aaload, 1)) (hs : st = .int j :: .ref a :: rest) (A : Arv Z h a kA ty z vs dv) (hty : ty.isReference = true) (q1 : ¬ j < 0) (q2 : j < z) (hv : vs.getD j.toNatClampNeg dv = x) (hp : pc + 1 = pc') (g : G w Q h k n pc' Ls (x :: rest)) : G w Q h k n pc Ls st := by
  subst hp; intro T locs X eT N
  obtain ⟨cl, Ar, hi, hg⟩ := arv_inb A q1 q2
  rw [hv] at hg
  exact G.to X eT N (fun t r => X.aaload C.ex (j := j) (v := x) (by rw [eT]; exact Ar.1) (State.isArrayOf_alike C.hZ.alike Ar.2.1) hty Ar.2.2 hi hg (g := mkF w.m pc Ls st) rfl hs (C.dec hd) _ r) g
theorem g_alen (C : Cx w l Z own bytes mx rt nm rm n0) {a : Addr} {kA : ClassId} {ty : FieldType} {z : Int32} {vs : List Value} {dv : Value} (hd : decode bytes pc = .ok (.arraylength, 1)) (hs : st = .ref a :: rest) (A : Arv Z h a kA ty z vs dv) (hp : pc + 1 = pc') (g : G w Q h k n pc' Ls (.int z :: rest)) : G w Q h k n pc Ls st := by
  subst hp; intro T locs X eT N
  obtain ⟨cl, Ar, -, S, q3, -, -⟩ := A
  exact G.to X eT N (fun t r => X.arraylength C.ex (by rw [eT]; exact Ar.1) (State.isArrayOf_alike C.hZ.alike Ar.2.1) (g := mkF w.m pc Ls st) rfl hs (C.dec hd) _ (by rw [len_of S q3]; exact r)) g

theorem g_iastore (C : Cx w l Z own bytes mx rt nm rm n0) {a : Addr} {kA : ClassId} {z j : Int32} {vs : List Value} {dv : Value} {x : Int32} (hd : decode bytes pc = .ok (.iastore, 1)) (hs : st = .int x :: .int j :: .ref a :: rest) (A : Arv Z h a kA .int z vs dv) (q1 : ¬ j < 0) (q2 : j < z) (ge : n0 ≤ a) (hp : pc + 1 = pc')
    (g : ∀ h', Wr h h' a j.toNatClampNeg (.int x) → G w Q h' k n pc' Ls rest) : G w Q h k n pc Ls st := by
  subst hp; intro T locs X eT N
  obtain ⟨cl, Ar, hi, -⟩ := arv_inb A q1 q2
  obtain ⟨T', h', X', e', W, s'⟩ := stI X C.ex C.hZ eT Ar (j := j) hi (g := mkF w.m pc Ls st) rfl hs (C.dec hd)
  exact G.to X' e' (fr_snoc N (C.nn ▸ ge)) s' (g h' W)
theorem g_lastore (C : Cx w l Z own bytes mx rt nm rm n0) {a : Addr} {kA : ClassId} {z j : Int32} {vs : List Value} {dv : Value} {x : Int64} (hd : decode bytes pc = .ok (.lastore, 1)) (hs : st = .long x :: .int j :: .ref a :: rest) (A : Arv Z h a kA .long z vs dv) (q1 : ¬ j < 0) (q2 : j < z) (ge : n0 ≤ a) (hp : pc + 1 = pc')
    (g : ∀ h', Wr h h' a j.toNatClampNeg (.long x) → G w Q h' k n pc' Ls rest) : G w Q h k n pc Ls st := by
  subst hp; intro T locs X eT N
  obtain ⟨cl, Ar, hi, -⟩ := arv_inb A q1 q2
  obtain ⟨T', h', X', e', W, s'⟩ := stJ X C.ex C.hZ eT Ar (j := j) hi (g := mkF w.m pc Ls st) rfl hs (C.dec hd)
  exact G.to X' e' (fr_snoc N (C.nn ▸ ge)) s' (g h' W)
theorem g_bastore (C : Cx w l Z own bytes mx rt nm rm n0) {a : Addr} {kA : ClassId} {z j : Int32} {vs : List Value} {dv : Value} {x : Int32} (hd : decode bytes pc = .ok (.bastore, 1)) (hs : st = .int x :: .int j :: .ref a :: rest) (A : Arv Z h a kA .byte z vs dv) (q1 : ¬ j < 0) (q2 : j < z) (ge : n0 ≤ a) (hp : pc + 1 = pc')
    (g : ∀ h', Wr h h' a j.toNatClampNeg (.int (nar .byte x)) → G w Q h' k n pc' Ls rest) : G w Q h k n pc Ls st := by
  subst hp; intro T locs X eT N
  obtain ⟨cl, Ar, hi, -⟩ := arv_inb A q1 q2
  obtain ⟨T', h', X', e', W, s'⟩ := stB X C.ex C.hZ eT Ar (j := j) hi (g := mkF w.m pc Ls st) rfl hs (C.dec hd)
  exact G.to X' e' (fr_snoc N (C.nn ▸ ge)) s' (g h' W)
theorem g_aastore (C : Cx w l Z own bytes mx rt nm rm n0) {a : Addr} {kA : ClassId} {ty : FieldType} {z j : Int32} {vs : List Value} {dv x : Value} (hd : decode bytes pc = .ok (.aastore, 1)) (hs : st = x :: .int j :: .ref a :: rest) (A : Arv Z h a kA ty z vs dv) (hty : ty.isReference = true) (F : Sto Z h a x) (q1 : ¬ j < 0) (q2 : j < z) (ge : n0 ≤ a) (hp : pc + 1 = pc')
    (g : ∀ h', Wr h h' a j.toNatClampNeg x → G w Q h' k n pc' Ls rest) : G w Q h k n pc Ls st := by
  subst hp; intro T locs X eT N
  obtain ⟨cl, Ar, hi, -⟩ := arv_inb A q1 q2
  obtain ⟨T', h', X', e', W, s'⟩ := stR X C.ex C.hZ eT Ar (j := j) hi hty F (g := mkF w.m pc Ls st) rfl hs (C.dec hd)
  exact G.to X' e' (fr_snoc N (C.nn ▸ ge)) s' (g h' W)
/-! returns -/
theorem g_ret (C : Cx w l Z own bytes mx (some t) nm rm n0) {v : Value} {i : Instr} (hd : decode bytes pc = .ok (i, 1)) (hs : st = v :: rest) (hn : narrow t v = v)
    (hi : (i = .ireturn ∧ (t = .int ∨ t = .boolean ∨ t = .byte ∨ t = .char ∨ t = .short) ∧ ∃ z, v = .int z) ∨ (i = .lreturn ∧ t = .long ∧ ∃ z, v = .long z) ∨ (i = .dreturn ∧ t = .double ∧ ∃ z, v = .double z) ∨ (i = .freturn ∧ t = .float ∧ ∃ z, v = .float z) ∨ (i = .areturn ∧ t.isReference = true ∧ v.isRef = true))
    (hk : k ≤ rm.cells) (hnn : n ≤ rm.slots) (q : Q (some v) h) : G w Q h k n pc Ls st := by
  subst hs; intro T locs X eT N
  obtain ⟨fs, hr, hrun, hended, hW, hsame⟩ := X.leave (v := some v) (fun h => by rw [C.ret] at h; cases h) C.lk
  exact ⟨_, _, retOut X C.ex C.ret hn hi (C.dec hd) hr, hrun, hended, _, locs, rfl, ⟨by show Q _ T.heap; rw [eT]; exact q, N⟩, ⟨_, rfl⟩, hW, hsame.mono (by rw [C.ro]; exact hk) (by rw [C.ro]; exact hnn)⟩
theorem g_ireturn (C : Cx w l Z own bytes mx (some .int) nm rm n0) {z : Int32} (hd : decode bytes pc = .ok (.ireturn, 1)) (hs : st = .int z :: rest) (hk : k ≤ rm.cells) (hnn : n ≤ rm.slots) (q : Q (some (.int z)) h) : G w Q h k n pc Ls st :=
  g_ret C hd hs rfl (Or.inl ⟨rfl, Or.inl rfl, z, rfl⟩) hk hnn q
theorem g_zreturn (C : Cx w l Z own bytes mx (some .boolean) nm rm n0) {z : Int32} (hd : decode bytes pc = .ok (.ireturn, 1)) (hs : st = .int z :: rest) (hn : narrow .boolean (.int z) = .int z) (hk : k ≤ rm.cells) (hnn : n ≤ rm.slots) (q : Q (some (.int z)) h) : G w Q h k n pc Ls st :=
  g_ret C hd hs hn (Or.inl ⟨rfl, Or.inr (Or.inl rfl), z, rfl⟩) hk hnn q
theorem g_breturn (C : Cx w l Z own bytes mx (some .byte) nm rm n0) {z : Int32} (hd : decode bytes pc = .ok (.ireturn, 1)) (hs : st = .int z :: rest) (hn : narrow .byte (.int z) = .int z) (hk : k ≤ rm.cells) (hnn : n ≤ rm.slots) (q : Q (some (.int z)) h) : G w Q h k n pc Ls st :=
  g_ret C hd hs hn (Or.inl ⟨rfl, Or.inr (Or.inr (Or.inl rfl)), z, rfl⟩) hk hnn q
theorem g_lreturn (C : Cx w l Z own bytes mx (some .long) nm rm n0) {z : Int64} (hd : decode bytes pc = .ok (.lreturn, 1)) (hs : st = .long z :: rest) (hk : k ≤ rm.cells) (hnn : n ≤ rm.slots) (q : Q (some (.long z)) h) : G w Q h k n pc Ls st :=
  g_ret C hd hs rfl (Or.inr (Or.inl ⟨rfl, rfl, z, rfl⟩)) hk hnn q
theorem g_areturn (C : Cx w l Z own bytes mx (some t) nm rm n0) {v : Value} (hd : decode bytes pc = .ok (.areturn, 1)) (hs : st = v :: rest) (ht : t.isReference = true) (hv : v.isRef = true) (hn : narrow t v = v) (hk : k ≤ rm.cells) (hnn : n ≤ rm.slots) (q : Q (some v) h) : G w Q h k n pc Ls st :=
  g_ret C hd hs hn (Or.inr (Or.inr (Or.inr (Or.inr ⟨rfl, ht, hv⟩)))) hk hnn q
theorem g_return (C : Cx w l Z own bytes mx none nm rm n0) (hd : decode bytes pc = .ok (.return_, 1)) (hs : st = []) (hk : k ≤ rm.cells) (hnn : n ≤ rm.slots) (q : Q none h) : G w Q h k n pc Ls st := by
  subst hs; intro T locs X eT N
  obtain ⟨fs, hr, hrun, hended, hW, hsame⟩ := X.leave (v := none) (fun _ => rfl) C.lk
  exact ⟨_, _, X.returnOut C.ex C.ret (C.dec hd) hr, hrun, hended, _, locs, rfl, ⟨by show Q _ T.heap; rw [eT]; exact q, N⟩, ⟨_, rfl⟩, hW, hsame.mono (by rw [C.ro]; exact hk) (by rw [C.ro]; exact hnn)⟩
/-! calls by the callee's contract -/
theorem g_fin {rm' : Room} {Q' : Option Value → Heap → Prop} {T : State} {locs : List Loc} {as : Array Value} {v : Option Value} {B : Pt} {A : Pt} (C : Cx w l Z own bytes mx rt nm rm n0) (hA : A.locs = locs ∧ A.cells = k ∧ A.slots = n)
    (X' : Stand w.p w.l w.e w.R w.s w.m w.args w.below w.meth w.c B.U B.locs B.cells B.slots) (hQ : ∃ L, (Q' v B.U.heap ∧ Fr n0 L) ∧ B.locs = A.locs ++ L ∧ B.cells = A.cells + rm'.cells ∧ B.slots = A.slots + rm'.slots) (N : Fr w.n0 locs)
    (g : ∀ v h', Q' v h' → G w Q h' (k + rm'.cells) (n + rm'.slots) pc' Ls (psh v rest)) (s' : ∀ t, Steps w.p.tables w.e w.below (B.U.setTop (mkF w.m pc' Ls (v.toList ++ rest))) t → Steps w.p.tables w.e w.below (T.setTop (mkF w.m pc Ls st)) t) : Ends w Q (T.setTop (mkF w.m pc Ls st)) := by
  obtain ⟨T', L', k', n'⟩ := B
  obtain ⟨L, ⟨hq, hL⟩, e1, e2, e3⟩ := hQ
  obtain ⟨a1, a2, a3⟩ := hA
  dsimp only [Pt.U, Pt.locs, Pt.cells, Pt.slots] at X' hq e1 e2 e3 s' a1 a2 a3
  subst a1 a2 a3 e1 e2 e3
  rw [psh_eq] at s'
  exact G.to X' rfl (N.app (C.nn ▸ hL)) s' (g v _ hq)
theorem g_callS (C : Cx w l Z own bytes mx rt nm rm n0) {y : MethodName} {i mL : Nat} {bs : ByteArray} {rt' : Option FieldType} {rm' : Room} {Q' : Option Value → Heap → Prop} {argsL : List Value} {ps : List FieldType} {r : Option FieldType}
    (w1 : (Jvm.Cond.methodLink own i y).before a0 Z = true) (w2 : (Jvm.Cond.static y).before a0 Z = true) (w3 : (Jvm.Cond.initialized y.cls).before a0 Z = true) (w4 : (Jvm.Cond.code y bs mL rt').before a0 Z = true) (hy : y.cls ≠ "java/lang/invoke/MethodHandle" ∧ y.cls ≠ "java/lang/invoke/VarHandle")
    (hd : decode bytes pc = .ok (.invokestatic i, 3)) (pd : parseMethodDescriptor y.desc = some ⟨ps, r⟩) (hlen : argsL.length = ps.length) (hst : st = argsL.reverse ++ rest) (hz : Ls.size = mx)
    (K : Con l Z y bs mL rt' rm' argsL.toArray h n0 Q') (hf : rm'.frames + 1 ≤ rm.frames) (hl : (rest.map fun v => v.category).sum + (mL + 11) + rm'.locals ≤ rm.locals) (hc : k' ≤ rm.cells) (hn : n' ≤ rm.slots) (ek : k + rm'.cells = k') (en : n + rm'.slots = n') (hp : pc + 3 = pc')
    (g : ∀ v h', Q' v h' → G w Q h' k' n' pc' Ls (psh v rest)) : G w Q h k n pc Ls st := by
  subst hp ek en; intro T locs X eT N
  have hl0 : w.l = l := C.1
  subst hl0
  obtain ⟨v, vm₁, B, -, X', hQ, s'⟩ := Jvm.LawKit.callS X C.ex C.ow (mvT C.hZ w1) (mvT C.hZ w2) (mvT C.hZ w3) (mvT C.hZ w4) hy (backOf (W := (rest.map fun v => v.category).sum) (Q := fun v h L => Q' v h ∧ Fr n0 L) (K []) C.hZ w4 w3 (by rw [C.ro]; exact hf) (by rw [C.ro]; exact hl)) (g := mkF w.m pc Ls st) rfl (hz.trans C.ml.symm) (argsL := argsL) (rest := rest) (lenOf pd hlen) hst (by show 2 * 0 + _ ≤ _; omega) (C.dec hd) (fun _ _ => ⟨rfl, eT, by rw [C.ro]; exact hc, by rw [C.ro]; exact hn⟩)
  exact g_fin (T := T) (as := argsL.toArray) (A := (⟨T.setVm vm₁, locs, k, n⟩ : Pt)) C ⟨rfl, rfl, rfl⟩ X' hQ N g s'
theorem g_special (C : Cx w l Z own bytes mx rt nm rm n0) {y : MethodName} {i mL : Nat} {bs : ByteArray} {rm' : Room} {Q' : Option Value → Heap → Prop} {a : Addr} {argsL : List Value} {ps : List FieldType} {r : Option FieldType}
    (w1 : (Jvm.Cond.methodLink own i y).before a0 Z = true) (w2 : (Jvm.Cond.instanceMethod y).before a0 Z = true) (w3 : (Jvm.Cond.initialized y.cls).before a0 Z = true) (w4 : (Jvm.Cond.code y bs mL none).before a0 Z = true) (hy : y.cls ≠ "java/lang/invoke/MethodHandle" ∧ y.cls ≠ "java/lang/invoke/VarHandle") (hy1 : y.name = "<init>")
    (hd : decode bytes pc = .ok (.invokespecial i, 3)) (pd : parseMethodDescriptor y.desc = some ⟨ps, r⟩) (hlen : argsL.length = ps.length) (hst : st = argsL.reverse ++ .ref a :: rest) (hz : Ls.size = mx)
    (K : Con l Z y bs mL none rm' (.ref a :: argsL).toArray h n0 Q') (hf : rm'.frames + 1 ≤ rm.frames) (hl : (rest.map fun v => v.category).sum + (mL + 11) + rm'.locals ≤ rm.locals) (hc : k' ≤ rm.cells) (hn : n' ≤ rm.slots) (ek : k + rm'.cells = k') (en : n + rm'.slots = n') (hp : pc + 3 = pc')
    (g : ∀ v h', Q' v h' → G w Q h' k' n' pc' Ls (psh v rest)) : G w Q h k n pc Ls st := by
  subst hp ek en; intro T locs X eT N
  have hl0 : w.l = l := C.1
  subst hl0
  obtain ⟨v, vm₁, B, -, X', hQ, s'⟩ := X.specialBack C.ex hy1 C.ow (mvT C.hZ w1) (mvT C.hZ w2) (mvT C.hZ w4) hy (backOf (W := (rest.map fun v => v.category).sum) (Q := fun v h L => Q' v h ∧ Fr n0 L) (K []) C.hZ w4 w3 (by rw [C.ro]; exact hf) (by rw [C.ro]; exact hl)) (g := mkF w.m pc Ls st) rfl (hz.trans C.ml.symm) (Steps.refl _) (a := a) (argsL := argsL) (rest := rest) (lenOf pd hlen) hst (by show 2 * 0 + _ ≤ _; omega) (C.dec hd) (fun _ _ => ⟨rfl, eT, by rw [C.ro]; exact hc, by rw [C.ro]; exact hn⟩)
  exact g_fin (T := T) (as := argsL.toArray) (A := (⟨T.setVm vm₁, locs, k, n⟩ : Pt)) C ⟨rfl, rfl, rfl⟩ X' hQ N g (fun t r => s'.trans r)
theorem g_virtual (C : Cx w l Z own bytes mx rt nm rm n0) {y z : MethodName} {B : String} {i mL : Nat} {bs : ByteArray} {rt' : Option FieldType} {rm' : Room} {Q' : Option Value → Heap → Prop} {a : Addr} {argsL : List Value} {ps : List FieldType} {r : Option FieldType}
    (w1 : (Jvm.Cond.methodLink own i y).before a0 Z = true) (w2 : (Jvm.Cond.declares y).before a0 Z = true) (nf : ∀ {s : State}, Z.Warmed39 s.vm → NotFace s y) (ws : (Jvm.Cond.selects B y z).before a0 Z = true) (w5 : (Jvm.Cond.instanceMethod z).before a0 Z = true) (w3 : (Jvm.Cond.initialized z.cls).before a0 Z = true) (w4 : (Jvm.Cond.code z bs mL rt').before a0 Z = true) (hy : y.cls ≠ "java/lang/invoke/MethodHandle" ∧ y.cls ≠ "java/lang/invoke/VarHandle")
    (hd : decode bytes pc = .ok (.invokevirtual i, 3)) (pd : parseMethodDescriptor y.desc = some ⟨ps, r⟩) (hlen : argsL.length = ps.length) (hst : st = argsL.reverse ++ .ref a :: rest) (hz : Ls.size = mx) (E : Exa Z h a B)
    (K : Con l Z z bs mL rt' rm' (.ref a :: argsL).toArray h n0 Q') (hf : rm'.frames + 1 ≤ rm.frames) (hl : (rest.map fun v => v.category).sum + (mL + 11) + rm'.locals ≤ rm.locals) (hc : k' ≤ rm.cells) (hn : n' ≤ rm.slots) (ek : k + rm'.cells = k') (en : n + rm'.slots = n') (hp : pc + 3 = pc')
    (g : ∀ v h', Q' v h' → G w Q h' k' n' pc' Ls (psh v rest)) : G w Q h k n pc Ls st := by
  subst hp ek en; intro T locs X eT N
  have hl0 : w.l = l := C.1
  subst hl0
  obtain ⟨cq, kq, q1, q2, q3⟩ := isOf C.hZ eT E
  obtain ⟨v, vm₁, B, -, X', hQ, s'⟩ := X.virtualBack C.ex C.ow (mvT C.hZ w1) (mvT C.hZ w2) (nf C.hZ) (mvT C.hZ ws) (mvT C.hZ w5) hy (backOf (W := (rest.map fun v => v.category).sum) (Q := fun v h L => Q' v h ∧ Fr n0 L) (K []) C.hZ w4 w3 (by rw [C.ro]; exact hf) (by rw [C.ro]; exact hl)) q1 q3 (g := mkF w.m pc Ls st) rfl (hz.trans C.ml.symm) (Steps.refl _) (argsL := argsL) (rest := rest) (lenOf pd hlen) hst (by show 2 * 0 + _ ≤ _; omega) (C.dec hd) (fun _ _ => ⟨rfl, eT, by rw [C.ro]; exact hc, by rw [C.ro]; exact hn⟩)
  exact g_fin (T := T) (as := argsL.toArray) (A := (⟨T.setVm vm₁, locs, k, n⟩ : Pt)) C ⟨rfl, rfl, rfl⟩ X' hQ N g (fun t r => s'.trans r)
theorem nfSel {y : MethodName} {B : String} (ws : (Jvm.Cond.selects B y y).before a0 Z = true) : ∀ {s : State}, Z.Warmed39 s.vm → NotFace s y := fun hZ => notFace_of_selects (args := #[]) (mvT hZ ws)
theorem g_virtualUp (C : Cx w l Z own bytes mx rt nm rm n0) {y z : MethodName} {B owner : String} {i mL : Nat} {bs : ByteArray} {rt' : Option FieldType} {rm' : Room} {Q' : Option Value → Heap → Prop} {a : Addr} {argsL : List Value} {ps : List FieldType} {r : Option FieldType}
    (w1 : (Jvm.Cond.methodLink own i y).before a0 Z = true) (wm : (Jvm.Cond.sameMethod y.cls owner y.name y.desc).before a0 Z = true) (w2 : (Jvm.Cond.declares ⟨owner, y.name, y.desc⟩).before a0 Z = true) (ho : owner ≠ "java/lang/invoke/MethodHandle" ∧ owner ≠ "java/lang/invoke/VarHandle") (ws : (Jvm.Cond.selects B y z).before a0 Z = true) (w5 : (Jvm.Cond.instanceMethod z).before a0 Z = true) (w3 : (Jvm.Cond.initialized z.cls).before a0 Z = true) (w4 : (Jvm.Cond.code z bs mL rt').before a0 Z = true)
    (hd : decode bytes pc = .ok (.invokevirtual i, 3)) (pd : parseMethodDescriptor y.desc = some ⟨ps, r⟩) (hlen : argsL.length = ps.length) (hst : st = argsL.reverse ++ .ref a :: rest) (hz : Ls.size = mx) (E : Exa Z h a B)
    (K : Con l Z z bs mL rt' rm' (.ref a :: argsL).toArray h n0 Q') (hf : rm'.frames + 1 ≤ rm.frames) (hl : (rest.map fun v => v.category).sum + (mL + 11) + rm'.locals ≤ rm.locals) (hc : k' ≤ rm.cells) (hn : n' ≤ rm.slots) (ek : k + rm'.cells = k') (en : n + rm'.slots = n') (hp : pc + 3 = pc')
    (g : ∀ v h', Q' v h' → G w Q h' k' n' pc' Ls (psh v rest)) : G w Q h k n pc Ls st := by
  subst hp ek en; intro T locs X eT N
  have hl0 : w.l = l := C.1
  subst hl0
  obtain ⟨cq, kq, q1, q2, q3⟩ := isOf C.hZ eT E
  obtain ⟨v, vm₁, B, -, X', hQ, s'⟩ := X.virtualBackUp C.ex C.ow (mvT C.hZ w1) (mvT C.hZ wm) (mvT C.hZ w2) ho (mvT C.hZ ws) (mvT C.hZ w5) (backOf (W := (rest.map fun v => v.category).sum) (Q := fun v h L => Q' v h ∧ Fr n0 L) (K []) C.hZ w4 w3 (by rw [C.ro]; exact hf) (by rw [C.ro]; exact hl)) q1 q3 (g := mkF w.m pc Ls st) rfl (hz.trans C.ml.symm) (Steps.refl _) (argsL := argsL) (rest := rest) (lenOf pd hlen) hst (by show 2 * 0 + _ ≤ _; omega) (C.dec hd) (fun _ _ => ⟨rfl, eT, by rw [C.ro]; exact hc, by rw [C.ro]; exact hn⟩)
  exact g_fin (T := T) (as := argsL.toArray) (A := (⟨T.setVm vm₁, locs, k, n⟩ : Pt)) C ⟨rfl, rfl, rfl⟩ X' hQ N g (fun t r => s'.trans r)
theorem g_interface (C : Cx w l Z own bytes mx rt nm rm n0) {y z : MethodName} {B : String} {count : Nat} {i mL : Nat} {bs : ByteArray} {rt' : Option FieldType} {rm' : Room} {Q' : Option Value → Heap → Prop} {a : Addr} {argsL : List Value} {ps : List FieldType} {r : Option FieldType}
    (w1 : (Jvm.Cond.methodLink own i y).before a0 Z = true) (w2 : (Jvm.Cond.declares y).before a0 Z = true) (wf : (Jvm.Cond.interfaceMethod y.cls y.cls y.name y.desc).before a0 Z = true) (hfa : ((Jvm.Cond.interfaceMethod y.cls y.cls y.name y.desc).onTables && (Jvm.Cond.interfaceMethod y.cls y.cls y.name y.desc).keepsFace) = true) (ws : (Jvm.Cond.selects B y z).before a0 Z = true) (w5 : (Jvm.Cond.instanceMethod z).before a0 Z = true) (wp : (Jvm.Cond.publicMethod z).before a0 Z = true) (wu : (Jvm.Cond.unhidden B y.name y.desc).before a0 Z = true) (wk : (Jvm.Cond.castable B y.cls).before a0 Z = true) (w3 : (Jvm.Cond.initialized z.cls).before a0 Z = true) (w4 : (Jvm.Cond.code z bs mL rt').before a0 Z = true) (hy : y.cls ≠ "java/lang/invoke/MethodHandle" ∧ y.cls ≠ "java/lang/invoke/VarHandle")
    (hd : decode bytes pc = .ok (.invokeinterface i count, 5)) (pd : parseMethodDescriptor y.desc = some ⟨ps, r⟩) (hlen : argsL.length = ps.length) (hst : st = argsL.reverse ++ .ref a :: rest) (hz : Ls.size = mx) (E : Exa Z h a B)
    (K : Con l Z z bs mL rt' rm' (.ref a :: argsL).toArray h n0 Q') (hf : rm'.frames + 1 ≤ rm.frames) (hl : (rest.map fun v => v.category).sum + (mL + 11) + rm'.locals ≤ rm.locals) (hc : k' ≤ rm.cells) (hn : n' ≤ rm.slots) (ek : k + rm'.cells = k') (en : n + rm'.slots = n') (hp : pc + 5 = pc')
    (g : ∀ v h', Q' v h' → G w Q h' k' n' pc' Ls (psh v rest)) : G w Q h k n pc Ls st := by
  subst hp ek en; intro T locs X eT N
  have hl0 : w.l = l := C.1
  subst hl0
  obtain ⟨cq, kq, q1, q2, q3⟩ := isOf C.hZ eT E
  obtain ⟨v, vm₁, B, -, X', hQ, s'⟩ := X.interfaceBack C.ex C.ow (mvT C.hZ w1) (mvT C.hZ w2) (mvT C.hZ wf hfa) (mvT C.hZ ws) (mvT C.hZ w5) (mvT C.hZ wp) (mvT C.hZ wu) (mvT C.hZ wk) hy (backOf (W := (rest.map fun v => v.category).sum) (Q := fun v h L => Q' v h ∧ Fr n0 L) (K []) C.hZ w4 w3 (by rw [C.ro]; exact hf) (by rw [C.ro]; exact hl)) q1 q2 q3 (g := mkF w.m pc Ls st) rfl (hz.trans C.ml.symm) (Steps.refl _) (argsL := argsL) (rest := rest) (lenOf pd hlen) hst (by show 2 * 0 + _ ≤ _; omega) (C.dec hd) (fun _ _ => ⟨rfl, eT, by rw [C.ro]; exact hc, by rw [C.ro]; exact hn⟩)
  exact g_fin (T := T) (as := argsL.toArray) (A := (⟨T.setVm vm₁, locs, k, n⟩ : Pt)) C ⟨rfl, rfl, rfl⟩ X' hQ N g (fun t r => s'.trans r)
theorem g_private (C : Cx w l Z own bytes mx rt nm rm n0) {y : MethodName} {B : String} {kk i mL : Nat} {bs : ByteArray} {rt' : Option FieldType} {rm' : Room} {Q' : Option Value → Heap → Prop} {a : Addr} {argsL : List Value} {ps : List FieldType} {r : Option FieldType}
    (w1 : (Jvm.Cond.methodLink own i y).before a0 Z = true) (w5 : (Jvm.Cond.instanceMethod y).before a0 Z = true) (wi : (Jvm.Cond.instantiable y.cls kk).before a0 Z = true) (wp : (Jvm.Cond.privateMethod y).before a0 Z = true) (w3 : (Jvm.Cond.initialized y.cls).before a0 Z = true) (w4 : (Jvm.Cond.code y bs mL rt').before a0 Z = true) (hy : y.cls ≠ "java/lang/invoke/MethodHandle" ∧ y.cls ≠ "java/lang/invoke/VarHandle")
    (hd : decode bytes pc = .ok (.invokevirtual i, 3)) (pd : parseMethodDescriptor y.desc = some ⟨ps, r⟩) (hlen : argsL.length = ps.length) (hst : st = argsL.reverse ++ .ref a :: rest) (hz : Ls.size = mx) (E : Exa Z h a B)
    (K : Con l Z y bs mL rt' rm' (.ref a :: argsL).toArray h n0 Q') (hf : rm'.frames + 1 ≤ rm.frames) (hl : (rest.map fun v => v.category).sum + (mL + 11) + rm'.locals ≤ rm.locals) (hc : k' ≤ rm.cells) (hn : n' ≤ rm.slots) (ek : k + rm'.cells = k') (en : n + rm'.slots = n') (hp : pc + 3 = pc')
    (g : ∀ v h', Q' v h' → G w Q h' k' n' pc' Ls (psh v rest)) : G w Q h k n pc Ls st := by
  subst hp ek en; intro T locs X eT N
  have hl0 : w.l = l := C.1
  subst hl0
  obtain ⟨cq, q1, q2⟩ := E.cell
  have wi' : (Jvm.Cond.instantiable y.cls kk).before w.args w.s = true := mvT C.hZ wi
  obtain ⟨c2, k2, i1, i2, -, i4, -⟩ := Cond.instantiable_spec wi'
  have hni : k2.isInterface = false := (Bool.or_eq_false_iff.mp i4).1
  have hpv := Cond.privateMethod_at (mvP C.hZ wp (args := w.args))
  obtain ⟨v, vm₁, B, -, X', hQ, s'⟩ := X.privateBack C.ex C.ow (mvT C.hZ w1) (mvT C.hZ w5) (selects_self_of_private i1 i2 hni hpv (mvT C.hZ w5) hy) hpv (mvT C.hZ w4) hy (backOf (W := (rest.map fun v => v.category).sum) (Q := fun v h L => Q' v h ∧ Fr n0 L) (K []) C.hZ w4 w3 (by rw [C.ro]; exact hf) (by rw [C.ro]; exact hl)) (g := mkF w.m pc Ls st) rfl (hz.trans C.ml.symm) (Steps.refl _) (a := a) (by rw [eT]; exact q1) q2 (argsL := argsL) (rest := rest) (lenOf pd hlen) hst (by show 2 * 0 + _ ≤ _; omega) (C.dec hd) (fun _ _ => ⟨rfl, eT, by rw [C.ro]; exact hc, by rw [C.ro]; exact hn⟩)
  exact g_fin (T := T) (as := argsL.toArray) (A := (⟨T.setVm vm₁, locs, k, n⟩ : Pt)) C ⟨rfl, rfl, rfl⟩ X' hQ N g (fun t r => s'.trans r)
theorem g_lswHit (C : Cx w l Z own bytes mx rt nm rm n0) {df : Int} {prs : Array (Int × Int)} {len : Nat} {a o : Int} {i : Int32} (hd : decode bytes pc = .ok (.lookupswitch df prs, len)) (hs : st = .int i :: rest) (hso : (prs.toList.zip (prs.toList.drop 1)).all (fun (a, next) => a.1 < next.1) = true) (hf : prs.find? (·.1 == i.toInt) = some (a, o)) (ho : 0 ≤ (pc : Int) + o) (hp : ((pc : Int) + o).toNat = pc') (g : G w Q h k n pc' Ls rest) : G w Q h k n pc Ls st := by
  subst hp; exact g.adv fun T locs X _ t r => X.lookupswitchHit C.ex (g := mkF w.m pc Ls st) rfl hs (C.dec hd) hso hf ho t r
theorem g_lswMiss (C : Cx w l Z own bytes mx rt nm rm n0) {df : Int} {prs : Array (Int × Int)} {len : Nat} {i : Int32} (hd : decode bytes pc = .ok (.lookupswitch df prs, len)) (hs : st = .int i :: rest) (hso : (prs.toList.zip (prs.toList.drop 1)).all (fun (a, next) => a.1 < next.1) = true) (hf : prs.find? (·.1 == i.toInt) = none) (ho : 0 ≤ (pc : Int) + df) (hp : ((pc : Int) + df).toNat = pc') (g : G w Q h k n pc' Ls rest) : G w Q h k n pc Ls st := by
  subst hp; exact g.adv fun T locs X _ t r => X.lookupswitchMiss C.ex (g := mkF w.m pc Ls st) rfl hs (C.dec hd) hso hf ho t r
end Gs
theorem wd {Z : State} {a0 : Array Value} (hw : ∀ d ∈ tables_1, d.before a0 Z = true) (i : Nat) {d : Jvm.Cond} (e : tables_1[i]? = some d) : d.before a0 Z = true := hw _ (List.mem_of_getElem? e)
theorem own_fldInt {args : Array Value} {s : State} {t : Term} {a : Addr} {C f d : String} {k : Int32} (ev : t.eval args s none [] s = some (.ref a)) (h : (Jvm.Cond.eq (.field t C f d) (.int k)).value args s none s [] = some true) : Fld s s.heap a C f d (.int k) := by
  obtain ⟨x, y, hx, hy, k1, k2⟩ := cmp_v (Or.inl h)
  cases (Term.int_eval k).symm.trans hy
  obtain ⟨z, rfl⟩ : ∃ z, x = .int z := by simpa [Kin] using k2
  have e : z = k := by simpa [Jvm.Cond.value, hx, hy] using h
  subst e
  rw [fld_at ev] at hx
  exact Fld.start hx
theorem own_fldLong {args : Array Value} {s : State} {t : Term} {a : Addr} {C f d : String} {k : Int64} (ev : t.eval args s none [] s = some (.ref a)) (h : (Jvm.Cond.eq (.field t C f d) (.long k)).value args s none s [] = some true) : Fld s s.heap a C f d (.long k) := by
  obtain ⟨x, y, hx, hy, k1, k2⟩ := cmp_v (Or.inl h)
  cases (long_at k).symm.trans hy
  obtain ⟨z, rfl⟩ : ∃ z, x = .long z := by simpa [Kin] using k2
  have e : z = k := by simpa [Jvm.Cond.value, hx, hy] using h
  subst e
  rw [fld_at ev] at hx
  exact Fld.start hx
theorem own_staLong {args : Array Value} {s : State} {t : Term} {k : Int64} (h : (Jvm.Cond.eq t (.long k)).value args s none s [] = some true) : t.eval args s none [] s = some (.long k) := by
  obtain ⟨x, y, hx, hy, k1, k2⟩ := cmp_v (Or.inl h)
  cases (long_at k).symm.trans hy
  obtain ⟨z, rfl⟩ : ∃ z, x = .long z := by simpa [Kin] using k2
  have e : z = k := by simpa [Jvm.Cond.value, hx, hy] using h
  subst e
  exact hx
theorem own_staInt {args : Array Value} {s : State} {t : Term} {k : Int32} (h : (Jvm.Cond.eq t (.int k)).value args s none s [] = some true) : t.eval args s none [] s = some (.int k) := by
  obtain ⟨x, y, hx, hy, k1, k2⟩ := cmp_v (Or.inl h)
  cases (Term.int_eval k).symm.trans hy
  obtain ⟨z, rfl⟩ : ∃ z, x = .int z := by simpa [Kin] using k2
  have e : z = k := by simpa [Jvm.Cond.value, hx, hy] using h
  subst e
  exact hx
theorem own_ine {i j : Int32} (h : i ≠ j) : (Value.int i) ≠ .int j := fun q => h (by injection q)
theorem own_mask31 (x : Int32) : 0 ≤ (x &&& 2147483647).toInt ∧ (x &&& 2147483647).toInt < 2147483648 := by
  have := c_mask x 2147483647 31 (by decide) (by decide)
  rw [this]; omega
def En (Z : State) (s_EMPTY : Addr) : Prop := (Sta Z Z.heap "com/example/request_throttle/requestthrottle/RingColumn" "EMPTY" "[J" (.ref s_EMPTY)) ∧ (Exa Z Z.heap s_EMPTY "[J") ∧ (∃ kE, Arv Z Z.heap s_EMPTY kE .long (0 : Int32) [] (.long (0 : Int64)))
def RC (Z : State) (n0 : Nat) (h : Heap) (c R F S : Addr) (kR kF kS : ClassId) (w m : Int32) (r0 r1 : Value) (f0 f1 s0 s1 : Int32) : Prop :=
  n0 ≤ c ∧ n0 ≤ R ∧ n0 ≤ F ∧ n0 ≤ S ∧ c ≠ R ∧ c ≠ F ∧ c ≠ S ∧ R ≠ F ∧ R ≠ S ∧ F ≠ S ∧ OvrA Z kR .long "[J" ∧ Exa Z h c "com/example/request_throttle/requestthrottle/RingColumn" ∧ Fld Z h c "com/example/request_throttle/requestthrottle/RingColumn" "_width" "I" (.int w) ∧ Fld Z h c "com/example/request_throttle/requestthrottle/RingColumn" "_most" "I" (.int m) ∧ Fld Z h c "com/example/request_throttle/requestthrottle/RingColumn" "_rings" "[[J" (.ref R) ∧ Fld Z h c "com/example/request_throttle/requestthrottle/RingColumn" "_first" "[I" (.ref F) ∧ Fld Z h c "com/example/request_throttle/requestthrottle/RingColumn" "_size" "[I" (.ref S) ∧ Arv Z h R kR (.array .long) (2 : Int32) [r0, r1] .null ∧ Arv Z h F kF .int (2 : Int32) [.int f0, .int f1] (.int (0 : Int32)) ∧ Arv Z h S kS .int (2 : Int32) [.int s0, .int s1] (.int (0 : Int32))
theorem own_old {Z : State} {n0 : Nat} {h : Heap} {a b : Addr} (O : Old Z n0 h) (q : a < Z.heap.size) (r : n0 ≤ b) : a ≠ b := O.ne q r
theorem d7_0 : decode jdk_29_method_66_code 0 = .ok (.lload_n 0, 1) := by decide +kernel
theorem d7_1 : decode jdk_29_method_66_code 1 = .ok (.lload_n 2, 1) := by decide +kernel
theorem d7_2 : decode jdk_29_method_66_code 2 = .ok (.lcmp, 1) := by decide +kernel
theorem d7_3 : decode jdk_29_method_66_code 3 = .ok (.ifCond .lt 7, 3) := by decide +kernel
theorem d7_6 : decode jdk_29_method_66_code 6 = .ok (.lload_n 0, 1) := by decide +kernel
theorem d7_7 : decode jdk_29_method_66_code 7 = .ok (.goto 4, 3) := by decide +kernel
theorem d7_11 : decode jdk_29_method_66_code 11 = .ok (.lreturn, 1) := by decide +kernel
set_option maxRecDepth 65536 in
set_option maxHeartbeats 40000000 in
theorem max_1_0 (l : Launch) (Z : State) (a0 : Array Value) (hw : ∀ d ∈ tables_1, d.before a0 Z = true) (n0 : Nat) (h : Heap) (O : Old Z n0 h) (s_EMPTY : Addr) (H : En Z s_EMPTY) : Con l Z (⟨"java/lang/Math", "max", "(JJ)J"⟩ : MethodName) jdk_29_method_66_code 4 (some .long) ({ frames := 0, cells := 0, slots := 0, locals := 0 } : Room) #[(.long (1 : Int64)), (.long (0 : Int64))] h n0 (fun v h' => v = some (.long (1 : Int64)) ∧ h' = h) := by
  refine Con.mk (Ls := #[.val (.long (1 : Int64)), .second, .val (.long (0 : Int64)), .second]) (Jvm.Free.JP.mathPlain rfl (by decide +kernel)) (fun m => by first | (simp [entryFrame, mkF, argsToLocals, Value.category]; done) | rfl) (fun w C => ?_)
  replace C : Cx w l Z "java/lang/Math" jdk_29_method_66_code 4 (some .long) "max" ({ frames := 0, cells := 0, slots := 0, locals := 0 } : Room) n0 := C
  refine g_lloadN C (pc' := 1) d7_0 rfl rfl ?_
  refine g_lloadN C (pc' := 2) d7_1 rfl rfl ?_
  refine g_lcmp C (pc' := 3) d7_2 rfl rfl ?_
  rw [show (lcmpW (1 : Int64) (0 : Int64)) = (1 : Int32) from by decide]
  refine g_ifN C (pc' := 6) d7_3 rfl (by decide) rfl ?_
  refine g_lloadN C (pc' := 7) d7_6 rfl rfl ?_
  refine g_goto C (pc' := 11) d7_7 (by decide) rfl ?_
  exact g_lreturn C d7_11 rfl (Nat.le_of_ble_eq_true rfl) (Nat.le_of_ble_eq_true rfl) (⟨rfl, rfl⟩)
theorem d7_10 : decode jdk_29_method_66_code 10 = .ok (.lload_n 2, 1) := by decide +kernel
set_option maxRecDepth 65536 in
set_option maxHeartbeats 40000000 in
theorem max_1_2 (l : Launch) (Z : State) (a0 : Array Value) (hw : ∀ d ∈ tables_1, d.before a0 Z = true) (n0 : Nat) (h : Heap) (O : Old Z n0 h) (s_EMPTY : Addr) (H : En Z s_EMPTY) : Con l Z (⟨"java/lang/Math", "max", "(JJ)J"⟩ : MethodName) jdk_29_method_66_code 4 (some .long) ({ frames := 0, cells := 0, slots := 0, locals := 0 } : Room) #[(.long (1 : Int64)), (.long (2 : Int64))] h n0 (fun v h' => v = some (.long (2 : Int64)) ∧ h' = h) := by
  refine Con.mk (Ls := #[.val (.long (1 : Int64)), .second, .val (.long (2 : Int64)), .second]) (Jvm.Free.JP.mathPlain rfl (by decide +kernel)) (fun m => by first | (simp [entryFrame, mkF, argsToLocals, Value.category]; done) | rfl) (fun w C => ?_)
  replace C : Cx w l Z "java/lang/Math" jdk_29_method_66_code 4 (some .long) "max" ({ frames := 0, cells := 0, slots := 0, locals := 0 } : Room) n0 := C
  refine g_lloadN C (pc' := 1) d7_0 rfl rfl ?_
  refine g_lloadN C (pc' := 2) d7_1 rfl rfl ?_
  refine g_lcmp C (pc' := 3) d7_2 rfl rfl ?_
  rw [show (lcmpW (1 : Int64) (2 : Int64)) = (-1 : Int32) from by decide]
  refine g_ifY C (pc' := 10) d7_3 rfl (by decide) (by decide) rfl ?_
  refine g_lloadN C (pc' := 11) d7_10 rfl rfl ?_
  exact g_lreturn C d7_11 rfl (Nat.le_of_ble_eq_true rfl) (Nat.le_of_ble_eq_true rfl) (⟨rfl, rfl⟩)
theorem d8_0 : decode jdk_29_method_70_code 0 = .ok (.lload_n 0, 1) := by decide +kernel
theorem d8_1 : decode jdk_29_method_70_code 1 = .ok (.lload_n 2, 1) := by decide +kernel
theorem d8_2 : decode jdk_29_method_70_code 2 = .ok (.lcmp, 1) := by decide +kernel
theorem d8_3 : decode jdk_29_method_70_code 3 = .ok (.ifCond .gt 7, 3) := by decide +kernel
theorem d8_6 : decode jdk_29_method_70_code 6 = .ok (.lload_n 0, 1) := by decide +kernel
theorem d8_7 : decode jdk_29_method_70_code 7 = .ok (.goto 4, 3) := by decide +kernel
theorem d8_11 : decode jdk_29_method_70_code 11 = .ok (.lreturn, 1) := by decide +kernel
set_option maxRecDepth 65536 in
set_option maxHeartbeats 40000000 in
theorem min_1 (l : Launch) (Z : State) (a0 : Array Value) (hw : ∀ d ∈ tables_1, d.before a0 Z = true) (n0 : Nat) (h : Heap) (O : Old Z n0 h) (s_EMPTY : Addr) (H : En Z s_EMPTY) (m : Int32) (hm : ¬ m.toInt64 < (1 : Int64)) : Con l Z (⟨"java/lang/Math", "min", "(JJ)J"⟩ : MethodName) jdk_29_method_70_code 4 (some .long) ({ frames := 0, cells := 0, slots := 0, locals := 0 } : Room) #[(.long (1 : Int64)), (.long m.toInt64)] h n0 (fun v h' => v = some (.long (1 : Int64)) ∧ h' = h) := by
  refine Con.mk (Ls := #[.val (.long (1 : Int64)), .second, .val (.long m.toInt64), .second]) (Jvm.Free.JP.mathPlain rfl (by decide +kernel)) (fun m => by first | (simp [entryFrame, mkF, argsToLocals, Value.category]; done) | rfl) (fun w C => ?_)
  replace C : Cx w l Z "java/lang/Math" jdk_29_method_70_code 4 (some .long) "min" ({ frames := 0, cells := 0, slots := 0, locals := 0 } : Room) n0 := C
  refine g_lloadN C (pc' := 1) d8_0 rfl rfl ?_
  refine g_lloadN C (pc' := 2) d8_1 rfl rfl ?_
  refine g_lcmp C (pc' := 3) d8_2 rfl rfl ?_
  refine g_ifN C (pc' := 6) d8_3 rfl (says_f (cd := .gt) (fun q => hm ((lw_gt _ _).mp q))) rfl ?_
  refine g_lloadN C (pc' := 7) d8_6 rfl rfl ?_
  refine g_goto C (pc' := 11) d8_7 (by decide) rfl ?_
  exact g_lreturn C d8_11 rfl (Nat.le_of_ble_eq_true rfl) (Nat.le_of_ble_eq_true rfl) (⟨rfl, rfl⟩)
set_option maxRecDepth 65536 in
set_option maxHeartbeats 40000000 in
theorem min_2 (l : Launch) (Z : State) (a0 : Array Value) (hw : ∀ d ∈ tables_1, d.before a0 Z = true) (n0 : Nat) (h : Heap) (O : Old Z n0 h) (s_EMPTY : Addr) (H : En Z s_EMPTY) (m : Int32) (hm : ¬ m.toInt64 < (2 : Int64)) : Con l Z (⟨"java/lang/Math", "min", "(JJ)J"⟩ : MethodName) jdk_29_method_70_code 4 (some .long) ({ frames := 0, cells := 0, slots := 0, locals := 0 } : Room) #[(.long (2 : Int64)), (.long m.toInt64)] h n0 (fun v h' => v = some (.long (2 : Int64)) ∧ h' = h) := by
  refine Con.mk (Ls := #[.val (.long (2 : Int64)), .second, .val (.long m.toInt64), .second]) (Jvm.Free.JP.mathPlain rfl (by decide +kernel)) (fun m => by first | (simp [entryFrame, mkF, argsToLocals, Value.category]; done) | rfl) (fun w C => ?_)
  replace C : Cx w l Z "java/lang/Math" jdk_29_method_70_code 4 (some .long) "min" ({ frames := 0, cells := 0, slots := 0, locals := 0 } : Room) n0 := C
  refine g_lloadN C (pc' := 1) d8_0 rfl rfl ?_
  refine g_lloadN C (pc' := 2) d8_1 rfl rfl ?_
  refine g_lcmp C (pc' := 3) d8_2 rfl rfl ?_
  refine g_ifN C (pc' := 6) d8_3 rfl (says_f (cd := .gt) (fun q => hm ((lw_gt _ _).mp q))) rfl ?_
  refine g_lloadN C (pc' := 7) d8_6 rfl rfl ?_
  refine g_goto C (pc' := 11) d8_7 (by decide) rfl ?_
  exact g_lreturn C d8_11 rfl (Nat.le_of_ble_eq_true rfl) (Nat.le_of_ble_eq_true rfl) (⟨rfl, rfl⟩)
theorem d9_0 : decode jdk_29_method_43_code 0 = .ok (.lload_n 0, 1) := by decide +kernel
theorem d9_1 : decode jdk_29_method_43_code 1 = .ok (.l2i, 1) := by decide +kernel
theorem d9_2 : decode jdk_29_method_43_code 2 = .ok (.i2l, 1) := by decide +kernel
theorem d9_3 : decode jdk_29_method_43_code 3 = .ok (.lload_n 0, 1) := by decide +kernel
theorem d9_4 : decode jdk_29_method_43_code 4 = .ok (.lcmp, 1) := by decide +kernel
theorem d9_5 : decode jdk_29_method_43_code 5 = .ok (.ifCond .eq 13, 3) := by decide +kernel
theorem d9_18 : decode jdk_29_method_43_code 18 = .ok (.lload_n 0, 1) := by decide +kernel
theorem d9_19 : decode jdk_29_method_43_code 19 = .ok (.l2i, 1) := by decide +kernel
theorem d9_20 : decode jdk_29_method_43_code 20 = .ok (.ireturn, 1) := by decide +kernel
set_option maxRecDepth 65536 in
set_option maxHeartbeats 40000000 in
theorem tie_1 (l : Launch) (Z : State) (a0 : Array Value) (hw : ∀ d ∈ tables_1, d.before a0 Z = true) (n0 : Nat) (h : Heap) (O : Old Z n0 h) (s_EMPTY : Addr) (H : En Z s_EMPTY) : Con l Z (⟨"java/lang/Math", "toIntExact", "(J)I"⟩ : MethodName) jdk_29_method_43_code 2 (some .int) ({ frames := 0, cells := 0, slots := 0, locals := 0 } : Room) #[(.long (1 : Int64))] h n0 (fun v h' => v = some (.int (1 : Int32)) ∧ h' = h) := by
  refine Con.mk (Ls := #[.val (.long (1 : Int64)), .second]) (Jvm.Free.JP.mathPlain rfl (by decide +kernel)) (fun m => by first | (simp [entryFrame, mkF, argsToLocals, Value.category]; done) | rfl) (fun w C => ?_)
  replace C : Cx w l Z "java/lang/Math" jdk_29_method_43_code 2 (some .int) "toIntExact" ({ frames := 0, cells := 0, slots := 0, locals := 0 } : Room) n0 := C
  refine g_lloadN C (pc' := 1) d9_0 rfl rfl ?_
  refine g_l2i C (pc' := 2) d9_1 rfl rfl ?_
  rw [show (1 : Int64).toInt32 = (1 : Int32) from by decide]
  refine g_i2l C (pc' := 3) d9_2 rfl rfl ?_
  rw [show (1 : Int32).toInt64 = (1 : Int64) from by decide]
  refine g_lloadN C (pc' := 4) d9_3 rfl rfl ?_
  refine g_lcmp C (pc' := 5) d9_4 rfl rfl ?_
  rw [show (lcmpW (1 : Int64) (1 : Int64)) = (0 : Int32) from by decide]
  refine g_ifY C (pc' := 18) d9_5 rfl (by decide) (by decide) rfl ?_
  refine g_lloadN C (pc' := 19) d9_18 rfl rfl ?_
  refine g_l2i C (pc' := 20) d9_19 rfl rfl ?_
  rw [show (1 : Int64).toInt32 = (1 : Int32) from by decide]
  exact g_ireturn C d9_20 rfl (Nat.le_of_ble_eq_true rfl) (Nat.le_of_ble_eq_true rfl) (⟨rfl, rfl⟩)
set_option maxRecDepth 65536 in
set_option maxHeartbeats 40000000 in
theorem tie_2 (l : Launch) (Z : State) (a0 : Array Value) (hw : ∀ d ∈ tables_1, d.before a0 Z = true) (n0 : Nat) (h : Heap) (O : Old Z n0 h) (s_EMPTY : Addr) (H : En Z s_EMPTY) : Con l Z (⟨"java/lang/Math", "toIntExact", "(J)I"⟩ : MethodName) jdk_29_method_43_code 2 (some .int) ({ frames := 0, cells := 0, slots := 0, locals := 0 } : Room) #[(.long (2 : Int64))] h n0 (fun v h' => v = some (.int (2 : Int32)) ∧ h' = h) := by
  refine Con.mk (Ls := #[.val (.long (2 : Int64)), .second]) (Jvm.Free.JP.mathPlain rfl (by decide +kernel)) (fun m => by first | (simp [entryFrame, mkF, argsToLocals, Value.category]; done) | rfl) (fun w C => ?_)
  replace C : Cx w l Z "java/lang/Math" jdk_29_method_43_code 2 (some .int) "toIntExact" ({ frames := 0, cells := 0, slots := 0, locals := 0 } : Room) n0 := C
  refine g_lloadN C (pc' := 1) d9_0 rfl rfl ?_
  refine g_l2i C (pc' := 2) d9_1 rfl rfl ?_
  rw [show (2 : Int64).toInt32 = (2 : Int32) from by decide]
  refine g_i2l C (pc' := 3) d9_2 rfl rfl ?_
  rw [show (2 : Int32).toInt64 = (2 : Int64) from by decide]
  refine g_lloadN C (pc' := 4) d9_3 rfl rfl ?_
  refine g_lcmp C (pc' := 5) d9_4 rfl rfl ?_
  rw [show (lcmpW (2 : Int64) (2 : Int64)) = (0 : Int32) from by decide]
  refine g_ifY C (pc' := 18) d9_5 rfl (by decide) (by decide) rfl ?_
  refine g_lloadN C (pc' := 19) d9_18 rfl rfl ?_
  refine g_l2i C (pc' := 20) d9_19 rfl rfl ?_
  rw [show (2 : Int64).toInt32 = (2 : Int32) from by decide]
  exact g_ireturn C d9_20 rfl (Nat.le_of_ble_eq_true rfl) (Nat.le_of_ble_eq_true rfl) (⟨rfl, rfl⟩)
set_option maxRecDepth 65536 in
set_option maxHeartbeats 40000000 in
theorem tie_4 (l : Launch) (Z : State) (a0 : Array Value) (hw : ∀ d ∈ tables_1, d.before a0 Z = true) (n0 : Nat) (h : Heap) (O : Old Z n0 h) (s_EMPTY : Addr) (H : En Z s_EMPTY) : Con l Z (⟨"java/lang/Math", "toIntExact", "(J)I"⟩ : MethodName) jdk_29_method_43_code 2 (some .int) ({ frames := 0, cells := 0, slots := 0, locals := 0 } : Room) #[(.long (4 : Int64))] h n0 (fun v h' => v = some (.int (4 : Int32)) ∧ h' = h) := by
  refine Con.mk (Ls := #[.val (.long (4 : Int64)), .second]) (Jvm.Free.JP.mathPlain rfl (by decide +kernel)) (fun m => by first | (simp [entryFrame, mkF, argsToLocals, Value.category]; done) | rfl) (fun w C => ?_)
  replace C : Cx w l Z "java/lang/Math" jdk_29_method_43_code 2 (some .int) "toIntExact" ({ frames := 0, cells := 0, slots := 0, locals := 0 } : Room) n0 := C
  refine g_lloadN C (pc' := 1) d9_0 rfl rfl ?_
  refine g_l2i C (pc' := 2) d9_1 rfl rfl ?_
  rw [show (4 : Int64).toInt32 = (4 : Int32) from by decide]
  refine g_i2l C (pc' := 3) d9_2 rfl rfl ?_
  rw [show (4 : Int32).toInt64 = (4 : Int64) from by decide]
  refine g_lloadN C (pc' := 4) d9_3 rfl rfl ?_
  refine g_lcmp C (pc' := 5) d9_4 rfl rfl ?_
  rw [show (lcmpW (4 : Int64) (4 : Int64)) = (0 : Int32) from by decide]
  refine g_ifY C (pc' := 18) d9_5 rfl (by decide) (by decide) rfl ?_
  refine g_lloadN C (pc' := 19) d9_18 rfl rfl ?_
  refine g_l2i C (pc' := 20) d9_19 rfl rfl ?_
  rw [show (4 : Int64).toInt32 = (4 : Int32) from by decide]
  exact g_ireturn C d9_20 rfl (Nat.le_of_ble_eq_true rfl) (Nat.le_of_ble_eq_true rfl) (⟨rfl, rfl⟩)
theorem d1_0 : decode jdk_29_method_69_code 0 = .ok (.iload_n 0, 1) := by decide +kernel
theorem d1_1 : decode jdk_29_method_69_code 1 = .ok (.iload_n 1, 1) := by decide +kernel
theorem d1_2 : decode jdk_29_method_69_code 2 = .ok (.if_icmp .gt 7, 3) := by decide +kernel
theorem d1_5 : decode jdk_29_method_69_code 5 = .ok (.iload_n 0, 1) := by decide +kernel
theorem d1_6 : decode jdk_29_method_69_code 6 = .ok (.goto 4, 3) := by decide +kernel
theorem d1_10 : decode jdk_29_method_69_code 10 = .ok (.ireturn, 1) := by decide +kernel
set_option maxRecDepth 65536 in
set_option maxHeartbeats 40000000 in
theorem minI_lt (l : Launch) (Z : State) (a0 : Array Value) (hw : ∀ d ∈ tables_1, d.before a0 Z = true) (n0 : Nat) (h : Heap) (O : Old Z n0 h) (s_EMPTY : Addr) (H : En Z s_EMPTY) (x y : Int32) (hm : ¬ y < x) : Con l Z (⟨"java/lang/Math", "min", "(II)I"⟩ : MethodName) jdk_29_method_69_code 2 (some .int) ({ frames := 0, cells := 0, slots := 0, locals := 0 } : Room) #[(.int x), (.int y)] h n0 (fun v h' => v = some (.int x) ∧ h' = h) := by
  refine Con.mk (Ls := #[.val (.int x), .val (.int y)]) (Jvm.Free.JP.mathPlain rfl (by decide +kernel)) (fun m => by first | (simp [entryFrame, mkF, argsToLocals, Value.category]; done) | rfl) (fun w C => ?_)
  replace C : Cx w l Z "java/lang/Math" jdk_29_method_69_code 2 (some .int) "min" ({ frames := 0, cells := 0, slots := 0, locals := 0 } : Room) n0 := C
  refine g_iloadN C (pc' := 1) d1_0 rfl rfl ?_
  refine g_iloadN C (pc' := 2) d1_1 rfl rfl ?_
  refine g_icN C (pc' := 5) d1_2 rfl (says_f (cd := .gt) (hm)) rfl ?_
  refine g_iloadN C (pc' := 6) d1_5 rfl rfl ?_
  refine g_goto C (pc' := 10) d1_6 (by decide) rfl ?_
  exact g_ireturn C d1_10 rfl (Nat.le_of_ble_eq_true rfl) (Nat.le_of_ble_eq_true rfl) (⟨rfl, rfl⟩)
theorem d1_9 : decode jdk_29_method_69_code 9 = .ok (.iload_n 1, 1) := by decide +kernel
set_option maxRecDepth 65536 in
set_option maxHeartbeats 40000000 in
theorem minI_gt (l : Launch) (Z : State) (a0 : Array Value) (hw : ∀ d ∈ tables_1, d.before a0 Z = true) (n0 : Nat) (h : Heap) (O : Old Z n0 h) (s_EMPTY : Addr) (H : En Z s_EMPTY) (x y : Int32) (hm : y < x) : Con l Z (⟨"java/lang/Math", "min", "(II)I"⟩ : MethodName) jdk_29_method_69_code 2 (some .int) ({ frames := 0, cells := 0, slots := 0, locals := 0 } : Room) #[(.int x), (.int y)] h n0 (fun v h' => v = some (.int y) ∧ h' = h) := by
  refine Con.mk (Ls := #[.val (.int x), .val (.int y)]) (Jvm.Free.JP.mathPlain rfl (by decide +kernel)) (fun m => by first | (simp [entryFrame, mkF, argsToLocals, Value.category]; done) | rfl) (fun w C => ?_)
  replace C : Cx w l Z "java/lang/Math" jdk_29_method_69_code 2 (some .int) "min" ({ frames := 0, cells := 0, slots := 0, locals := 0 } : Room) n0 := C
  refine g_iloadN C (pc' := 1) d1_0 rfl rfl ?_
  refine g_iloadN C (pc' := 2) d1_1 rfl rfl ?_
  refine g_icY C (pc' := 9) d1_2 rfl (says_t (cd := .gt) (hm)) (by decide) rfl ?_
  refine g_iloadN C (pc' := 10) d1_9 rfl rfl ?_
  exact g_ireturn C d1_10 rfl (Nat.le_of_ble_eq_true rfl) (Nat.le_of_ble_eq_true rfl) (⟨rfl, rfl⟩)
theorem d2_0 : decode prog_17_method_1_code 0 = .ok (.aload_n 0, 1) := by decide +kernel
theorem d2_1 : decode prog_17_method_1_code 1 = .ok (.invokespecial 1, 3) := by decide +kernel
theorem d2_4 : decode prog_17_method_1_code 4 = .ok (.aload_n 0, 1) := by decide +kernel
theorem d2_5 : decode prog_17_method_1_code 5 = .ok (.iload_n 1, 1) := by decide +kernel
theorem d2_6 : decode prog_17_method_1_code 6 = .ok (.putfield 7, 3) := by decide +kernel
theorem d2_9 : decode prog_17_method_1_code 9 = .ok (.aload_n 0, 1) := by decide +kernel
theorem d2_10 : decode prog_17_method_1_code 10 = .ok (.iload_n 2, 1) := by decide +kernel
theorem d2_11 : decode prog_17_method_1_code 11 = .ok (.putfield 13, 3) := by decide +kernel
theorem d2_14 : decode prog_17_method_1_code 14 = .ok (.aload_n 0, 1) := by decide +kernel
theorem d2_15 : decode prog_17_method_1_code 15 = .ok (.iload_n 3, 1) := by decide +kernel
theorem d2_16 : decode prog_17_method_1_code 16 = .ok (.anewarray 16, 3) := by decide +kernel
theorem d2_19 : decode prog_17_method_1_code 19 = .ok (.putfield 18, 3) := by decide +kernel
theorem d2_22 : decode prog_17_method_1_code 22 = .ok (.aload_n 0, 1) := by decide +kernel
theorem d2_23 : decode prog_17_method_1_code 23 = .ok (.iload_n 3, 1) := by decide +kernel
theorem d2_24 : decode prog_17_method_1_code 24 = .ok (.newarray .int, 2) := by decide +kernel
theorem d2_26 : decode prog_17_method_1_code 26 = .ok (.putfield 22, 3) := by decide +kernel
theorem d2_29 : decode prog_17_method_1_code 29 = .ok (.aload_n 0, 1) := by decide +kernel
theorem d2_30 : decode prog_17_method_1_code 30 = .ok (.iload_n 3, 1) := by decide +kernel
theorem d2_31 : decode prog_17_method_1_code 31 = .ok (.newarray .int, 2) := by decide +kernel
theorem d2_33 : decode prog_17_method_1_code 33 = .ok (.putfield 26, 3) := by decide +kernel
theorem d2_36 : decode prog_17_method_1_code 36 = .ok (.return_, 1) := by decide +kernel
theorem pn_0 : plainName "com/example/request_throttle/requestthrottle/RingColumn" = true := by first | (simp [plainName, overriddenIn]; done) | decide +kernel
set_option maxRecDepth 65536 in
set_option maxHeartbeats 40000000 in
theorem rc_init (l : Launch) (Z : State) (a0 : Array Value) (hw : ∀ d ∈ tables_1, d.before a0 Z = true) (n0 : Nat) (h : Heap) (O : Old Z n0 h) (s_EMPTY : Addr) (H : En Z s_EMPTY) (c : Addr) (gc : n0 ≤ c) (w m : Int32) (E0 : Exa Z h c "com/example/request_throttle/requestthrottle/RingColumn") (F_width : Fld Z h c "com/example/request_throttle/requestthrottle/RingColumn" "_width" "I" (.int (0 : Int32))) (F_most : Fld Z h c "com/example/request_throttle/requestthrottle/RingColumn" "_most" "I" (.int (0 : Int32))) (F_rings : Fld Z h c "com/example/request_throttle/requestthrottle/RingColumn" "_rings" "[[J" .null) (F_first : Fld Z h c "com/example/request_throttle/requestthrottle/RingColumn" "_first" "[I" .null) (F_size : Fld Z h c "com/example/request_throttle/requestthrottle/RingColumn" "_size" "[I" .null) : Con l Z (⟨"com/example/request_throttle/requestthrottle/RingColumn", "<init>", "(III)V"⟩ : MethodName) prog_17_method_1_code 4 none ({ frames := 1, cells := 3, slots := 6, locals := 12 } : Room) #[(.ref c), (.int w), (.int m), (.int (2 : Int32))] h n0 (fun r h' => r = none ∧ Keep h h' [c] ∧ ∃ R F S kR kF kS, h.size ≤ R ∧ h.size ≤ F ∧ h.size ≤ S ∧ RC Z n0 h' c R F S kR kF kS w m .null .null (0 : Int32) (0 : Int32) (0 : Int32) (0 : Int32)) := by
  refine Con.mk (Ls := #[.val (.ref c), .val (.int w), .val (.int m), .val (.int (2 : Int32))]) (plainFor_of_name pn_0) (fun m => by first | (simp [entryFrame, mkF, argsToLocals, Value.category]; done) | rfl) (fun w C => ?_)
  replace C : Cx w l Z "com/example/request_throttle/requestthrottle/RingColumn" prog_17_method_1_code 4 none "<init>" ({ frames := 1, cells := 3, slots := 6, locals := 12 } : Room) n0 := C
  obtain ⟨S_EMPTY, E_EMPTY, V_EMPTY⟩ := id H
  obtain ⟨kE, V_EMPTY⟩ := V_EMPTY
  refine g_aloadN C (pc' := 1) d2_0 rfl rfl rfl ?_
  refine g_initO C (pc' := 4) (wd hw 10 rfl) (wd hw 11 rfl) (wd hw 12 rfl) d2_1 rfl rfl (Nat.le_of_ble_eq_true rfl) (Nat.le_of_ble_eq_true rfl) rfl ?_
  refine g_aloadN C (pc' := 5) d2_4 rfl rfl rfl ?_
  refine g_iloadN C (pc' := 6) d2_5 rfl rfl ?_
  refine g_putF C (pc' := 9) (ty := .int) (wd hw 13 rfl) Via.refl d2_6 rfl F_width E0 (Or.inr ⟨(wd hw 14 rfl), rfl, rfl⟩) (wd hw 5 rfl) (by decide) rfl rfl gc rfl (fun h1 W2 => ?_)
  have f3 := O.wr W2 gc
  have f4 := E0.wr W2
  have f5 := (Keep.refl h [c]).wr W2 (Or.inl (List.mem_of_getElem? (i := 0) rfl))
  have f6 := F_width.same W2
  have f7 := F_most.other W2 (Or.inr (slot_ne (Or.inr (wd hw 16 rfl)) (Or.inr (wd hw 14 rfl)) (by decide) (t := .int) (t' := .int) (by decide) (by decide)))
  have f8 := F_rings.other W2 (Or.inr (slot_ne (Or.inr (wd hw 20 rfl)) (Or.inr (wd hw 14 rfl)) (by decide) (t := (.array (.array .long))) (t' := .int) (by decide) (by decide)))
  have f9 := F_first.other W2 (Or.inr (slot_ne (Or.inr (wd hw 23 rfl)) (Or.inr (wd hw 14 rfl)) (by decide) (t := (.array .int)) (t' := .int) (by decide) (by decide)))
  have f10 := F_size.other W2 (Or.inr (slot_ne (Or.inr (wd hw 25 rfl)) (Or.inr (wd hw 14 rfl)) (by decide) (t := (.array .int)) (t' := .int) (by decide) (by decide)))
  refine g_aloadN C (pc' := 10) d2_9 rfl rfl rfl ?_
  refine g_iloadN C (pc' := 11) d2_10 rfl rfl ?_
  refine g_putF C (pc' := 14) (ty := .int) (wd hw 15 rfl) Via.refl d2_11 rfl f7 f4 (Or.inr ⟨(wd hw 16 rfl), rfl, rfl⟩) (wd hw 5 rfl) (by decide) rfl rfl gc rfl (fun h11 W12 => ?_)
  have f13 := f3.wr W12 gc
  have f14 := f4.wr W12
  have f15 := f5.wr W12 (Or.inl (List.mem_of_getElem? (i := 0) rfl))
  have f16 := f6.other W12 (Or.inr (slot_ne (Or.inr (wd hw 14 rfl)) (Or.inr (wd hw 16 rfl)) (by decide) (t := .int) (t' := .int) (by decide) (by decide)))
  have f17 := f7.same W12
  have f18 := f8.other W12 (Or.inr (slot_ne (Or.inr (wd hw 20 rfl)) (Or.inr (wd hw 16 rfl)) (by decide) (t := (.array (.array .long))) (t' := .int) (by decide) (by decide)))
  have f19 := f9.other W12 (Or.inr (slot_ne (Or.inr (wd hw 23 rfl)) (Or.inr (wd hw 16 rfl)) (by decide) (t := (.array .int)) (t' := .int) (by decide) (by decide)))
  have f20 := f10.other W12 (Or.inr (slot_ne (Or.inr (wd hw 25 rfl)) (Or.inr (wd hw 16 rfl)) (by decide) (t := (.array .int)) (t' := .int) (by decide) (by decide)))
  refine g_aloadN C (pc' := 15) d2_14 rfl rfl rfl ?_
  refine g_iloadN C (pc' := 16) d2_15 rfl rfl ?_
  refine g_newRA C (pc' := 19) (k' := 1) (n' := 2) (cap := 2) (K := "[J") (ad := "[[J") (by decide) (by decide) (wd hw 17 rfl) (wd hw 18 rfl) d2_16 rfl (by decide) (by decide) (by decide) (by decide) (by decide) rfl rfl rfl (fun h21 b22 kA23 ex24 E25 A26 B28 Ov27 => ?_)
  have ne_c_b22 : c ≠ b22 := Nat.ne_of_lt (by rw [ex24]; exact f14.lt)
  have ge_b22 : n0 ≤ b22 := by rw [ex24]; exact f13.1 ▸ f13.2.1
  have sz_b22 : h.size ≤ b22 := by rw [ex24]; exact f15.1
  have f29 := f13.ext E25
  have f30 := f14.ext E25
  have f31 := f15.ext E25
  have f32 := f16.ext E25
  have f33 := f17.ext E25
  have f34 := f18.ext E25
  have f35 := f19.ext E25
  have f36 := f20.ext E25
  have A37 : Arv Z h21 b22 kA23 (.array .long) (2 : Int32) [.null, .null] .null := A26.pad (pad_rep [] .null 2)
  refine g_putF C (pc' := 22) (ty := (.array (.array .long))) (wd hw 19 rfl) Via.refl d2_19 rfl f34 f30 (Or.inr ⟨(wd hw 20 rfl), rfl, rfl⟩) (wd hw 5 rfl) (by decide) rfl rfl gc rfl (fun h38 W39 => ?_)
  have f40 := f29.wr W39 gc
  have f41 := f30.wr W39
  have f42 := f31.wr W39 (Or.inl (List.mem_of_getElem? (i := 0) rfl))
  have f43 := f32.other W39 (Or.inr (slot_ne (Or.inr (wd hw 14 rfl)) (Or.inr (wd hw 20 rfl)) (by decide) (t := .int) (t' := (.array (.array .long))) (by decide) (by decide)))
  have f44 := f33.other W39 (Or.inr (slot_ne (Or.inr (wd hw 16 rfl)) (Or.inr (wd hw 20 rfl)) (by decide) (t := .int) (t' := (.array (.array .long))) (by decide) (by decide)))
  have f45 := f34.same W39
  have f46 := f35.other W39 (Or.inr (slot_ne (Or.inr (wd hw 23 rfl)) (Or.inr (wd hw 20 rfl)) (by decide) (t := (.array .int)) (t' := (.array (.array .long))) (by decide) (by decide)))
  have f47 := f36.other W39 (Or.inr (slot_ne (Or.inr (wd hw 25 rfl)) (Or.inr (wd hw 20 rfl)) (by decide) (t := (.array .int)) (t' := (.array (.array .long))) (by decide) (by decide)))
  have f48 := A37.other W39 (Ne.symm ne_c_b22)
  have f49 := B28.wr W39
  refine g_aloadN C (pc' := 23) d2_22 rfl rfl rfl ?_
  refine g_iloadN C (pc' := 24) d2_23 rfl rfl ?_
  refine g_newP C (pc' := 26) (k' := 2) (n' := 4) (cap := 2) (wd hw 21 rfl) d2_24 rfl (by decide) (by decide) (by decide) (by decide) (by decide) rfl rfl rfl (fun h50 b51 kA52 ex53 E54 A55 => ?_)
  have ne_c_b51 : c ≠ b51 := Nat.ne_of_lt (by rw [ex53]; exact f41.lt)
  have ne_b22_b51 : b22 ≠ b51 := Nat.ne_of_lt (by rw [ex53]; exact f48.lt)
  have ge_b51 : n0 ≤ b51 := by rw [ex53]; exact f40.1 ▸ f40.2.1
  have sz_b51 : h.size ≤ b51 := by rw [ex53]; exact f42.1
  have f56 := f40.ext E54
  have f57 := f41.ext E54
  have f58 := f42.ext E54
  have f59 := f43.ext E54
  have f60 := f44.ext E54
  have f61 := f45.ext E54
  have f62 := f46.ext E54
  have f63 := f47.ext E54
  have f64 := f48.ext E54
  have f65 := f49.ext E54
  have A66 : Arv Z h50 b51 kA52 .int (2 : Int32) [(.int (0 : Int32)), (.int (0 : Int32))] (.int (0 : Int32)) := A55.pad (pad_rep [] (.int (0 : Int32)) 2)
  refine g_putF C (pc' := 29) (ty := (.array .int)) (wd hw 22 rfl) Via.refl d2_26 rfl f62 f57 (Or.inr ⟨(wd hw 23 rfl), rfl, rfl⟩) (wd hw 5 rfl) (by decide) rfl rfl gc rfl (fun h67 W68 => ?_)
  have f69 := f56.wr W68 gc
  have f70 := f57.wr W68
  have f71 := f58.wr W68 (Or.inl (List.mem_of_getElem? (i := 0) rfl))
  have f72 := f59.other W68 (Or.inr (slot_ne (Or.inr (wd hw 14 rfl)) (Or.inr (wd hw 23 rfl)) (by decide) (t := .int) (t' := (.array .int)) (by decide) (by decide)))
  have f73 := f60.other W68 (Or.inr (slot_ne (Or.inr (wd hw 16 rfl)) (Or.inr (wd hw 23 rfl)) (by decide) (t := .int) (t' := (.array .int)) (by decide) (by decide)))
  have f74 := f61.other W68 (Or.inr (slot_ne (Or.inr (wd hw 20 rfl)) (Or.inr (wd hw 23 rfl)) (by decide) (t := (.array (.array .long))) (t' := (.array .int)) (by decide) (by decide)))
  have f75 := f62.same W68
  have f76 := f63.other W68 (Or.inr (slot_ne (Or.inr (wd hw 25 rfl)) (Or.inr (wd hw 23 rfl)) (by decide) (t := (.array .int)) (t' := (.array .int)) (by decide) (by decide)))
  have f77 := f64.other W68 (Ne.symm ne_c_b22)
  have f78 := f65.wr W68
  have f79 := A66.other W68 (Ne.symm ne_c_b51)
  refine g_aloadN C (pc' := 30) d2_29 rfl rfl rfl ?_
  refine g_iloadN C (pc' := 31) d2_30 rfl rfl ?_
  refine g_newP C (pc' := 33) (k' := 3) (n' := 6) (cap := 2) (wd hw 21 rfl) d2_31 rfl (by decide) (by decide) (by decide) (by decide) (by decide) rfl rfl rfl (fun h80 b81 kA82 ex83 E84 A85 => ?_)
  have ne_c_b81 : c ≠ b81 := Nat.ne_of_lt (by rw [ex83]; exact f70.lt)
  have ne_b22_b81 : b22 ≠ b81 := Nat.ne_of_lt (by rw [ex83]; exact f77.lt)
  have ne_b51_b81 : b51 ≠ b81 := Nat.ne_of_lt (by rw [ex83]; exact f79.lt)
  have ge_b81 : n0 ≤ b81 := by rw [ex83]; exact f69.1 ▸ f69.2.1
  have sz_b81 : h.size ≤ b81 := by rw [ex83]; exact f71.1
  have f86 := f69.ext E84
  have f87 := f70.ext E84
  have f88 := f71.ext E84
  have f89 := f72.ext E84
  have f90 := f73.ext E84
  have f91 := f74.ext E84
  have f92 := f75.ext E84
  have f93 := f76.ext E84
  have f94 := f77.ext E84
  have f95 := f78.ext E84
  have f96 := f79.ext E84
  have A97 : Arv Z h80 b81 kA82 .int (2 : Int32) [(.int (0 : Int32)), (.int (0 : Int32))] (.int (0 : Int32)) := A85.pad (pad_rep [] (.int (0 : Int32)) 2)
  refine g_putF C (pc' := 36) (ty := (.array .int)) (wd hw 24 rfl) Via.refl d2_33 rfl f93 f87 (Or.inr ⟨(wd hw 25 rfl), rfl, rfl⟩) (wd hw 5 rfl) (by decide) rfl rfl gc rfl (fun h98 W99 => ?_)
  have f100 := f86.wr W99 gc
  have f101 := f87.wr W99
  have f102 := f88.wr W99 (Or.inl (List.mem_of_getElem? (i := 0) rfl))
  have f103 := f89.other W99 (Or.inr (slot_ne (Or.inr (wd hw 14 rfl)) (Or.inr (wd hw 25 rfl)) (by decide) (t := .int) (t' := (.array .int)) (by decide) (by decide)))
  have f104 := f90.other W99 (Or.inr (slot_ne (Or.inr (wd hw 16 rfl)) (Or.inr (wd hw 25 rfl)) (by decide) (t := .int) (t' := (.array .int)) (by decide) (by decide)))
  have f105 := f91.other W99 (Or.inr (slot_ne (Or.inr (wd hw 20 rfl)) (Or.inr (wd hw 25 rfl)) (by decide) (t := (.array (.array .long))) (t' := (.array .int)) (by decide) (by decide)))
  have f106 := f92.other W99 (Or.inr (slot_ne (Or.inr (wd hw 23 rfl)) (Or.inr (wd hw 25 rfl)) (by decide) (t := (.array .int)) (t' := (.array .int)) (by decide) (by decide)))
  have f107 := f93.same W99
  have f108 := f94.other W99 (Ne.symm ne_c_b22)
  have f109 := f95.wr W99
  have f110 := f96.other W99 (Ne.symm ne_c_b51)
  have f111 := A97.other W99 (Ne.symm ne_c_b81)
  exact g_return C d2_36 rfl (Nat.le_of_ble_eq_true rfl) (Nat.le_of_ble_eq_true rfl) (⟨rfl, f102, b22, b51, b81, kA23, kA52, kA82, sz_b22, sz_b51, sz_b81, gc, ge_b22, ge_b51, ge_b81, ne_c_b22, ne_c_b51, ne_c_b81, ne_b22_b51, ne_b22_b81, ne_b51_b81, Ov27, f101, f103, f104, f105, f106, f107, f108, f110, f111⟩)
theorem d4_0 : decode prog_17_method_2_code 0 = .ok (.aload_n 0, 1) := by decide +kernel
theorem d4_1 : decode prog_17_method_2_code 1 = .ok (.getfield 18, 3) := by decide +kernel
theorem d4_4 : decode prog_17_method_2_code 4 = .ok (.iload_n 1, 1) := by decide +kernel
theorem d4_5 : decode prog_17_method_2_code 5 = .ok (.getstatic 29, 3) := by decide +kernel
theorem d4_8 : decode prog_17_method_2_code 8 = .ok (.aastore, 1) := by decide +kernel
theorem d4_9 : decode prog_17_method_2_code 9 = .ok (.aload_n 0, 1) := by decide +kernel
theorem d4_10 : decode prog_17_method_2_code 10 = .ok (.getfield 22, 3) := by decide +kernel
theorem d4_13 : decode prog_17_method_2_code 13 = .ok (.iload_n 1, 1) := by decide +kernel
theorem d4_14 : decode prog_17_method_2_code 14 = .ok (.iconst 0, 1) := by decide +kernel
theorem d4_15 : decode prog_17_method_2_code 15 = .ok (.iastore, 1) := by decide +kernel
theorem d4_16 : decode prog_17_method_2_code 16 = .ok (.aload_n 0, 1) := by decide +kernel
theorem d4_17 : decode prog_17_method_2_code 17 = .ok (.getfield 26, 3) := by decide +kernel
theorem d4_20 : decode prog_17_method_2_code 20 = .ok (.iload_n 1, 1) := by decide +kernel
theorem d4_21 : decode prog_17_method_2_code 21 = .ok (.iconst 0, 1) := by decide +kernel
theorem d4_22 : decode prog_17_method_2_code 22 = .ok (.iastore, 1) := by decide +kernel
theorem d4_23 : decode prog_17_method_2_code 23 = .ok (.return_, 1) := by decide +kernel
set_option maxRecDepth 65536 in
set_option maxHeartbeats 40000000 in
theorem clear_0 (l : Launch) (Z : State) (a0 : Array Value) (hw : ∀ d ∈ tables_1, d.before a0 Z = true) (n0 : Nat) (h : Heap) (O : Old Z n0 h) (s_EMPTY : Addr) (H : En Z s_EMPTY) (c R F S : Addr) (kR kF kS : ClassId) (w m f0 f1 s0 s1 : Int32) (r0 r1 : Value) (P : RC Z n0 h c R F S kR kF kS w m r0 r1 f0 f1 s0 s1) : Con l Z (⟨"com/example/request_throttle/requestthrottle/RingColumn", "clear", "(I)V"⟩ : MethodName) prog_17_method_2_code 2 none ({ frames := 0, cells := 0, slots := 0, locals := 0 } : Room) #[(.ref c), (.int (0 : Int32))] h n0 (fun r h' => r = none ∧ Keep h h' [R, F, S] ∧ RC Z n0 h' c R F S kR kF kS w m (.ref s_EMPTY) r1 (0 : Int32) f1 (0 : Int32) s1) := by
  refine Con.mk (Ls := #[.val (.ref c), .val (.int (0 : Int32))]) (plainFor_of_name pn_0) (fun m => by first | (simp [entryFrame, mkF, argsToLocals, Value.category]; done) | rfl) (fun w C => ?_)
  replace C : Cx w l Z "com/example/request_throttle/requestthrottle/RingColumn" prog_17_method_2_code 2 none "clear" ({ frames := 0, cells := 0, slots := 0, locals := 0 } : Room) n0 := C
  obtain ⟨S_EMPTY, E_EMPTY, V_EMPTY⟩ := id H
  obtain ⟨kE, V_EMPTY⟩ := V_EMPTY
  obtain ⟨gc, gR, gF, gS, n_c_R, n_c_F, n_c_S, n_R_F, n_R_S, n_F_S, Ov, E0, Fw, Fm, FR, FF, FS, AR, AF, AS⟩ := P
  refine g_aloadN C (pc' := 1) d4_0 rfl rfl rfl ?_
  refine g_getF C (pc' := 4) (wd hw 19 rfl) Via.refl d4_1 rfl FR rfl ?_
  refine g_iloadN C (pc' := 5) d4_4 rfl rfl ?_
  refine g_getS C (pc' := 8) (wd hw 31 rfl) Via.refl d4_5 (S_EMPTY.ext O.2) rfl ?_
  refine g_aastore C (pc' := 9) d4_8 rfl AR rfl (stoA AR Ov (E_EMPTY.ext O.2)) (by decide) (by decide) gR rfl (fun h112 W113 => ?_)
  have f114 := O.wr W113 gR
  have f115 := E0.wr W113
  have f116 := Fw.other W113 (Or.inl n_c_R)
  have f117 := Fm.other W113 (Or.inl n_c_R)
  have f118 := FR.other W113 (Or.inl n_c_R)
  have f119 := FF.other W113 (Or.inl n_c_R)
  have f120 := FS.other W113 (Or.inl n_c_R)
  have f121 := (arv_put AR rfl W113 (i := 0) rfl (Nat.le_of_ble_eq_true rfl) : Arv Z h112 R kR (.array .long) (2 : Int32) [(.ref s_EMPTY), r1] .null)
  have f122 := AF.other W113 (Ne.symm n_R_F)
  have f123 := AS.other W113 (Ne.symm n_R_S)
  have f124 := (Keep.refl h [R, F, S]).wr W113 (Or.inl (List.mem_of_getElem? (i := 0) rfl))
  refine g_aloadN C (pc' := 10) d4_9 rfl rfl rfl ?_
  refine g_getF C (pc' := 13) (wd hw 22 rfl) Via.refl d4_10 rfl f119 rfl ?_
  refine g_iloadN C (pc' := 14) d4_13 rfl rfl ?_
  refine g_iconst C (pc' := 15) (v := (0 : Int32)) d4_14 (by decide) rfl ?_
  refine g_iastore C (pc' := 16) d4_15 rfl f122 (by decide) (by decide) gF rfl (fun h125 W126 => ?_)
  have f127 := f114.wr W126 gF
  have f128 := f115.wr W126
  have f129 := f116.other W126 (Or.inl n_c_F)
  have f130 := f117.other W126 (Or.inl n_c_F)
  have f131 := f118.other W126 (Or.inl n_c_F)
  have f132 := f119.other W126 (Or.inl n_c_F)
  have f133 := f120.other W126 (Or.inl n_c_F)
  have f134 := f121.other W126 n_R_F
  have f135 := (arv_put f122 rfl W126 (i := 0) rfl (Nat.le_of_ble_eq_true rfl) : Arv Z h125 F kF .int (2 : Int32) [(.int (0 : Int32)), (.int f1)] (.int (0 : Int32)))
  have f136 := f123.other W126 (Ne.symm n_F_S)
  have f137 := f124.wr W126 (Or.inl (List.mem_of_getElem? (i := 1) rfl))
  refine g_aloadN C (pc' := 17) d4_16 rfl rfl rfl ?_
  refine g_getF C (pc' := 20) (wd hw 24 rfl) Via.refl d4_17 rfl f133 rfl ?_
  refine g_iloadN C (pc' := 21) d4_20 rfl rfl ?_
  refine g_iconst C (pc' := 22) (v := (0 : Int32)) d4_21 (by decide) rfl ?_
  refine g_iastore C (pc' := 23) d4_22 rfl f136 (by decide) (by decide) gS rfl (fun h138 W139 => ?_)
  have f140 := f127.wr W139 gS
  have f141 := f128.wr W139
  have f142 := f129.other W139 (Or.inl n_c_S)
  have f143 := f130.other W139 (Or.inl n_c_S)
  have f144 := f131.other W139 (Or.inl n_c_S)
  have f145 := f132.other W139 (Or.inl n_c_S)
  have f146 := f133.other W139 (Or.inl n_c_S)
  have f147 := f134.other W139 n_R_S
  have f148 := f135.other W139 n_F_S
  have f149 := (arv_put f136 rfl W139 (i := 0) rfl (Nat.le_of_ble_eq_true rfl) : Arv Z h138 S kS .int (2 : Int32) [(.int (0 : Int32)), (.int s1)] (.int (0 : Int32)))
  have f150 := f137.wr W139 (Or.inl (List.mem_of_getElem? (i := 2) rfl))
  exact g_return C d4_23 rfl (Nat.le_of_ble_eq_true rfl) (Nat.le_of_ble_eq_true rfl) (⟨rfl, f150, ⟨gc, gR, gF, gS, n_c_R, n_c_F, n_c_S, n_R_F, n_R_S, n_F_S, Ov, f141, f142, f143, f144, f145, f146, f147, f148, f149⟩⟩)
theorem d11_0 : decode prog_17_method_3_code 0 = .ok (.aload_n 0, 1) := by decide +kernel
theorem d11_1 : decode prog_17_method_3_code 1 = .ok (.getfield 26, 3) := by decide +kernel
theorem d11_4 : decode prog_17_method_3_code 4 = .ok (.iload_n 1, 1) := by decide +kernel
theorem d11_5 : decode prog_17_method_3_code 5 = .ok (.iaload, 1) := by decide +kernel
theorem d11_6 : decode prog_17_method_3_code 6 = .ok (.ireturn, 1) := by decide +kernel
set_option maxRecDepth 65536 in
set_option maxHeartbeats 40000000 in
theorem size_0_0 (l : Launch) (Z : State) (a0 : Array Value) (hw : ∀ d ∈ tables_1, d.before a0 Z = true) (n0 : Nat) (h : Heap) (O : Old Z n0 h) (s_EMPTY : Addr) (H : En Z s_EMPTY) (c R F S : Addr) (kR kF kS : ClassId) (w m f0 f1 s1 : Int32) (r0 r1 : Value) (P : RC Z n0 h c R F S kR kF kS w m r0 r1 f0 f1 (0 : Int32) s1) : Con l Z (⟨"com/example/request_throttle/requestthrottle/RingColumn", "size", "(I)I"⟩ : MethodName) prog_17_method_3_code 2 (some .int) ({ frames := 0, cells := 0, slots := 0, locals := 0 } : Room) #[(.ref c), (.int (0 : Int32))] h n0 (fun r h' => r = some (.int (0 : Int32)) ∧ h' = h) := by
  refine Con.mk (Ls := #[.val (.ref c), .val (.int (0 : Int32))]) (plainFor_of_name pn_0) (fun m => by first | (simp [entryFrame, mkF, argsToLocals, Value.category]; done) | rfl) (fun w C => ?_)
  replace C : Cx w l Z "com/example/request_throttle/requestthrottle/RingColumn" prog_17_method_3_code 2 (some .int) "size" ({ frames := 0, cells := 0, slots := 0, locals := 0 } : Room) n0 := C
  obtain ⟨S_EMPTY, E_EMPTY, V_EMPTY⟩ := id H
  obtain ⟨kE, V_EMPTY⟩ := V_EMPTY
  obtain ⟨gc, gR, gF, gS, n_c_R, n_c_F, n_c_S, n_R_F, n_R_S, n_F_S, Ov, E0, Fw, Fm, FR, FF, FS, AR, AF, AS⟩ := P
  refine g_aloadN C (pc' := 1) d11_0 rfl rfl rfl ?_
  refine g_getF C (pc' := 4) (wd hw 24 rfl) Via.refl d11_1 rfl FS rfl ?_
  refine g_iloadN C (pc' := 5) d11_4 rfl rfl ?_
  refine g_iaload C (pc' := 6) (x := (0 : Int32)) d11_5 rfl AS (by decide) (by decide) rfl rfl ?_
  exact g_ireturn C d11_6 rfl (Nat.le_of_ble_eq_true rfl) (Nat.le_of_ble_eq_true rfl) (⟨rfl, rfl⟩)
set_option maxRecDepth 65536 in
set_option maxHeartbeats 40000000 in
theorem size_0_1 (l : Launch) (Z : State) (a0 : Array Value) (hw : ∀ d ∈ tables_1, d.before a0 Z = true) (n0 : Nat) (h : Heap) (O : Old Z n0 h) (s_EMPTY : Addr) (H : En Z s_EMPTY) (c R F S : Addr) (kR kF kS : ClassId) (w m f0 f1 s1 : Int32) (r0 r1 : Value) (P : RC Z n0 h c R F S kR kF kS w m r0 r1 f0 f1 (1 : Int32) s1) : Con l Z (⟨"com/example/request_throttle/requestthrottle/RingColumn", "size", "(I)I"⟩ : MethodName) prog_17_method_3_code 2 (some .int) ({ frames := 0, cells := 0, slots := 0, locals := 0 } : Room) #[(.ref c), (.int (0 : Int32))] h n0 (fun r h' => r = some (.int (1 : Int32)) ∧ h' = h) := by
  refine Con.mk (Ls := #[.val (.ref c), .val (.int (0 : Int32))]) (plainFor_of_name pn_0) (fun m => by first | (simp [entryFrame, mkF, argsToLocals, Value.category]; done) | rfl) (fun w C => ?_)
  replace C : Cx w l Z "com/example/request_throttle/requestthrottle/RingColumn" prog_17_method_3_code 2 (some .int) "size" ({ frames := 0, cells := 0, slots := 0, locals := 0 } : Room) n0 := C
  obtain ⟨S_EMPTY, E_EMPTY, V_EMPTY⟩ := id H
  obtain ⟨kE, V_EMPTY⟩ := V_EMPTY
  obtain ⟨gc, gR, gF, gS, n_c_R, n_c_F, n_c_S, n_R_F, n_R_S, n_F_S, Ov, E0, Fw, Fm, FR, FF, FS, AR, AF, AS⟩ := P
  refine g_aloadN C (pc' := 1) d11_0 rfl rfl rfl ?_
  refine g_getF C (pc' := 4) (wd hw 24 rfl) Via.refl d11_1 rfl FS rfl ?_
  refine g_iloadN C (pc' := 5) d11_4 rfl rfl ?_
  refine g_iaload C (pc' := 6) (x := (1 : Int32)) d11_5 rfl AS (by decide) (by decide) rfl rfl ?_
  exact g_ireturn C d11_6 rfl (Nat.le_of_ble_eq_true rfl) (Nat.le_of_ble_eq_true rfl) (⟨rfl, rfl⟩)
theorem d10_0 : decode prog_17_method_9_code 0 = .ok (.aload_n 0, 1) := by decide +kernel
theorem d10_1 : decode prog_17_method_9_code 1 = .ok (.getfield 22, 3) := by decide +kernel
theorem d10_4 : decode prog_17_method_9_code 4 = .ok (.iload_n 2, 1) := by decide +kernel
theorem d10_5 : decode prog_17_method_9_code 5 = .ok (.iaload, 1) := by decide +kernel
theorem d10_6 : decode prog_17_method_9_code 6 = .ok (.iload_n 3, 1) := by decide +kernel
theorem d10_7 : decode prog_17_method_9_code 7 = .ok (.aload_n 0, 1) := by decide +kernel
theorem d10_8 : decode prog_17_method_9_code 8 = .ok (.getfield 7, 3) := by decide +kernel
theorem d10_11 : decode prog_17_method_9_code 11 = .ok (.imul, 1) := by decide +kernel
theorem d10_12 : decode prog_17_method_9_code 12 = .ok (.iadd, 1) := by decide +kernel
theorem d10_13 : decode prog_17_method_9_code 13 = .ok (.istore 4, 2) := by decide +kernel
theorem d10_15 : decode prog_17_method_9_code 15 = .ok (.iload 4, 2) := by decide +kernel
theorem d10_17 : decode prog_17_method_9_code 17 = .ok (.aload_n 1, 1) := by decide +kernel
theorem d10_18 : decode prog_17_method_9_code 18 = .ok (.arraylength, 1) := by decide +kernel
theorem d10_19 : decode prog_17_method_9_code 19 = .ok (.if_icmp .ge 8, 3) := by decide +kernel
theorem d10_22 : decode prog_17_method_9_code 22 = .ok (.iload 4, 2) := by decide +kernel
theorem d10_24 : decode prog_17_method_9_code 24 = .ok (.goto 8, 3) := by decide +kernel
theorem d10_32 : decode prog_17_method_9_code 32 = .ok (.ireturn, 1) := by decide +kernel
set_option maxRecDepth 65536 in
set_option maxHeartbeats 40000000 in
theorem start_0_1_0 (l : Launch) (Z : State) (a0 : Array Value) (hw : ∀ d ∈ tables_1, d.before a0 Z = true) (n0 : Nat) (h : Heap) (O : Old Z n0 h) (s_EMPTY : Addr) (H : En Z s_EMPTY) (c R F S : Addr) (kR kF kS : ClassId) (m f1 s0 s1 : Int32) (r0 r1 : Value) (rg : Addr) (kJ : ClassId) (y0 : Int64) (Ar : Arv Z h rg kJ .long (1 : Int32) [(.long y0)] (.long (0 : Int64))) (P : RC Z n0 h c R F S kR kF kS (1 : Int32) m r0 r1 (0 : Int32) f1 s0 s1) : Con l Z (⟨"com/example/request_throttle/requestthrottle/RingColumn", "start", "([JII)I"⟩ : MethodName) prog_17_method_9_code 5 (some .int) ({ frames := 0, cells := 0, slots := 0, locals := 0 } : Room) #[(.ref c), (.ref rg), (.int (0 : Int32)), (.int (0 : Int32))] h n0 (fun r h' => r = some (.int (0 : Int32)) ∧ h' = h) := by
  refine Con.mk (Ls := #[.val (.ref c), .val (.ref rg), .val (.int (0 : Int32)), .val (.int (0 : Int32)), .unset]) (plainFor_of_name pn_0) (fun m => by first | (simp [entryFrame, mkF, argsToLocals, Value.category]; done) | rfl) (fun w C => ?_)
  replace C : Cx w l Z "com/example/request_throttle/requestthrottle/RingColumn" prog_17_method_9_code 5 (some .int) "start" ({ frames := 0, cells := 0, slots := 0, locals := 0 } : Room) n0 := C
  obtain ⟨S_EMPTY, E_EMPTY, V_EMPTY⟩ := id H
  obtain ⟨kE, V_EMPTY⟩ := V_EMPTY
  obtain ⟨gc, gR, gF, gS, n_c_R, n_c_F, n_c_S, n_R_F, n_R_S, n_F_S, Ov, E0, Fw, Fm, FR, FF, FS, AR, AF, AS⟩ := P
  refine g_aloadN C (pc' := 1) d10_0 rfl rfl rfl ?_
  refine g_getF C (pc' := 4) (wd hw 22 rfl) Via.refl d10_1 rfl FF rfl ?_
  refine g_iloadN C (pc' := 5) d10_4 rfl rfl ?_
  refine g_iaload C (pc' := 6) (x := (0 : Int32)) d10_5 rfl AF (by decide) (by decide) rfl rfl ?_
  refine g_iloadN C (pc' := 7) d10_6 rfl rfl ?_
  refine g_aloadN C (pc' := 8) d10_7 rfl rfl rfl ?_
  refine g_getF C (pc' := 11) (wd hw 13 rfl) Via.refl d10_8 rfl Fw rfl ?_
  refine g_imul C (pc' := 12) d10_11 rfl rfl ?_
  rw [show ((0 : Int32) * (1 : Int32)) = (0 : Int32) from by decide]
  refine g_iadd C (pc' := 13) d10_12 rfl rfl ?_
  rw [show ((0 : Int32) + (0 : Int32)) = (0 : Int32) from by decide]
  refine g_istore C (pc' := 15) (Ls' := #[.val (.ref c), .val (.ref rg), .val (.int (0 : Int32)), .val (.int (0 : Int32)), .val (.int (0 : Int32))]) d10_13 rfl rfl rfl ?_
  refine g_iload C (pc' := 17) d10_15 rfl rfl ?_
  refine g_aloadN C (pc' := 18) d10_17 rfl rfl rfl ?_
  refine g_alen C (pc' := 19) d10_18 rfl Ar rfl ?_
  refine g_icN C (pc' := 22) d10_19 rfl (by decide) rfl ?_
  refine g_iload C (pc' := 24) d10_22 rfl rfl ?_
  refine g_goto C (pc' := 32) d10_24 (by decide) rfl ?_
  exact g_ireturn C d10_32 rfl (Nat.le_of_ble_eq_true rfl) (Nat.le_of_ble_eq_true rfl) (⟨rfl, rfl⟩)
set_option maxRecDepth 65536 in
set_option maxHeartbeats 40000000 in
theorem start_0_1_1b (l : Launch) (Z : State) (a0 : Array Value) (hw : ∀ d ∈ tables_1, d.before a0 Z = true) (n0 : Nat) (h : Heap) (O : Old Z n0 h) (s_EMPTY : Addr) (H : En Z s_EMPTY) (c R F S : Addr) (kR kF kS : ClassId) (m f1 s0 s1 : Int32) (r0 r1 : Value) (rg : Addr) (kJ : ClassId) (y0 y1 : Int64) (Ar : Arv Z h rg kJ .long (2 : Int32) [(.long y0), (.long y1)] (.long (0 : Int64))) (P : RC Z n0 h c R F S kR kF kS (1 : Int32) m r0 r1 (0 : Int32) f1 s0 s1) : Con l Z (⟨"com/example/request_throttle/requestthrottle/RingColumn", "start", "([JII)I"⟩ : MethodName) prog_17_method_9_code 5 (some .int) ({ frames := 0, cells := 0, slots := 0, locals := 0 } : Room) #[(.ref c), (.ref rg), (.int (0 : Int32)), (.int (1 : Int32))] h n0 (fun r h' => r = some (.int (1 : Int32)) ∧ h' = h) := by
  refine Con.mk (Ls := #[.val (.ref c), .val (.ref rg), .val (.int (0 : Int32)), .val (.int (1 : Int32)), .unset]) (plainFor_of_name pn_0) (fun m => by first | (simp [entryFrame, mkF, argsToLocals, Value.category]; done) | rfl) (fun w C => ?_)
  replace C : Cx w l Z "com/example/request_throttle/requestthrottle/RingColumn" prog_17_method_9_code 5 (some .int) "start" ({ frames := 0, cells := 0, slots := 0, locals := 0 } : Room) n0 := C
  obtain ⟨S_EMPTY, E_EMPTY, V_EMPTY⟩ := id H
  obtain ⟨kE, V_EMPTY⟩ := V_EMPTY
  obtain ⟨gc, gR, gF, gS, n_c_R, n_c_F, n_c_S, n_R_F, n_R_S, n_F_S, Ov, E0, Fw, Fm, FR, FF, FS, AR, AF, AS⟩ := P
  refine g_aloadN C (pc' := 1) d10_0 rfl rfl rfl ?_
  refine g_getF C (pc' := 4) (wd hw 22 rfl) Via.refl d10_1 rfl FF rfl ?_
  refine g_iloadN C (pc' := 5) d10_4 rfl rfl ?_
  refine g_iaload C (pc' := 6) (x := (0 : Int32)) d10_5 rfl AF (by decide) (by decide) rfl rfl ?_
  refine g_iloadN C (pc' := 7) d10_6 rfl rfl ?_
  refine g_aloadN C (pc' := 8) d10_7 rfl rfl rfl ?_
  refine g_getF C (pc' := 11) (wd hw 13 rfl) Via.refl d10_8 rfl Fw rfl ?_
  refine g_imul C (pc' := 12) d10_11 rfl rfl ?_
  rw [show ((1 : Int32) * (1 : Int32)) = (1 : Int32) from by decide]
  refine g_iadd C (pc' := 13) d10_12 rfl rfl ?_
  rw [show ((0 : Int32) + (1 : Int32)) = (1 : Int32) from by decide]
  refine g_istore C (pc' := 15) (Ls' := #[.val (.ref c), .val (.ref rg), .val (.int (0 : Int32)), .val (.int (1 : Int32)), .val (.int (1 : Int32))]) d10_13 rfl rfl rfl ?_
  refine g_iload C (pc' := 17) d10_15 rfl rfl ?_
  refine g_aloadN C (pc' := 18) d10_17 rfl rfl rfl ?_
  refine g_alen C (pc' := 19) d10_18 rfl Ar rfl ?_
  refine g_icN C (pc' := 22) d10_19 rfl (by decide) rfl ?_
  refine g_iload C (pc' := 24) d10_22 rfl rfl ?_
  refine g_goto C (pc' := 32) d10_24 (by decide) rfl ?_
  exact g_ireturn C d10_32 rfl (Nat.le_of_ble_eq_true rfl) (Nat.le_of_ble_eq_true rfl) (⟨rfl, rfl⟩)
theorem d6_0 : decode prog_17_method_10_code 0 = .ok (.aload_n 0, 1) := by decide +kernel
theorem d6_1 : decode prog_17_method_10_code 1 = .ok (.getfield 18, 3) := by decide +kernel
theorem d6_4 : decode prog_17_method_10_code 4 = .ok (.iload_n 1, 1) := by decide +kernel
theorem d6_5 : decode prog_17_method_10_code 5 = .ok (.aaload, 1) := by decide +kernel
theorem d6_6 : decode prog_17_method_10_code 6 = .ok (.astore_n 2, 1) := by decide +kernel
theorem d6_7 : decode prog_17_method_10_code 7 = .ok (.lconst 1, 1) := by decide +kernel
theorem d6_8 : decode prog_17_method_10_code 8 = .ok (.ldc2_w 43, 3) := by decide +kernel
theorem d6_11 : decode prog_17_method_10_code 11 = .ok (.aload_n 2, 1) := by decide +kernel
theorem d6_12 : decode prog_17_method_10_code 12 = .ok (.arraylength, 1) := by decide +kernel
theorem d6_13 : decode prog_17_method_10_code 13 = .ok (.i2l, 1) := by decide +kernel
theorem d6_14 : decode prog_17_method_10_code 14 = .ok (.lmul, 1) := by decide +kernel
theorem d6_15 : decode prog_17_method_10_code 15 = .ok (.aload_n 0, 1) := by decide +kernel
theorem d6_16 : decode prog_17_method_10_code 16 = .ok (.getfield 7, 3) := by decide +kernel
theorem d6_19 : decode prog_17_method_10_code 19 = .ok (.i2l, 1) := by decide +kernel
theorem d6_20 : decode prog_17_method_10_code 20 = .ok (.ldiv, 1) := by decide +kernel
theorem d6_21 : decode prog_17_method_10_code 21 = .ok (.invokestatic 45, 3) := by decide +kernel
theorem pd_6 : parseMethodDescriptor "(JJ)J" = some ⟨[.long, .long], some .long⟩ := by decide +kernel
theorem d6_24 : decode prog_17_method_10_code 24 = .ok (.aload_n 0, 1) := by decide +kernel
theorem d6_25 : decode prog_17_method_10_code 25 = .ok (.getfield 13, 3) := by decide +kernel
theorem d6_28 : decode prog_17_method_10_code 28 = .ok (.i2l, 1) := by decide +kernel
theorem d6_29 : decode prog_17_method_10_code 29 = .ok (.invokestatic 51, 3) := by decide +kernel
theorem d6_32 : decode prog_17_method_10_code 32 = .ok (.lstore_n 3, 1) := by decide +kernel
theorem d6_33 : decode prog_17_method_10_code 33 = .ok (.lload_n 3, 1) := by decide +kernel
theorem d6_34 : decode prog_17_method_10_code 34 = .ok (.aload_n 0, 1) := by decide +kernel
theorem d6_35 : decode prog_17_method_10_code 35 = .ok (.getfield 7, 3) := by decide +kernel
theorem d6_38 : decode prog_17_method_10_code 38 = .ok (.i2l, 1) := by decide +kernel
theorem d6_39 : decode prog_17_method_10_code 39 = .ok (.lmul, 1) := by decide +kernel
theorem d6_40 : decode prog_17_method_10_code 40 = .ok (.invokestatic 54, 3) := by decide +kernel
theorem pd_7 : parseMethodDescriptor "(J)I" = some ⟨[.long], some .int⟩ := by decide +kernel
theorem d6_43 : decode prog_17_method_10_code 43 = .ok (.newarray .long, 2) := by decide +kernel
theorem d6_45 : decode prog_17_method_10_code 45 = .ok (.astore 5, 2) := by decide +kernel
theorem d6_47 : decode prog_17_method_10_code 47 = .ok (.aload_n 0, 1) := by decide +kernel
theorem d6_48 : decode prog_17_method_10_code 48 = .ok (.getfield 22, 3) := by decide +kernel
theorem d6_51 : decode prog_17_method_10_code 51 = .ok (.iload_n 1, 1) := by decide +kernel
theorem d6_52 : decode prog_17_method_10_code 52 = .ok (.iaload, 1) := by decide +kernel
theorem d6_53 : decode prog_17_method_10_code 53 = .ok (.istore 6, 2) := by decide +kernel
theorem d6_55 : decode prog_17_method_10_code 55 = .ok (.aload_n 2, 1) := by decide +kernel
theorem d6_56 : decode prog_17_method_10_code 56 = .ok (.iload 6, 2) := by decide +kernel
theorem d6_58 : decode prog_17_method_10_code 58 = .ok (.aload 5, 2) := by decide +kernel
theorem d6_60 : decode prog_17_method_10_code 60 = .ok (.iconst 0, 1) := by decide +kernel
theorem d6_61 : decode prog_17_method_10_code 61 = .ok (.aload_n 2, 1) := by decide +kernel
theorem d6_62 : decode prog_17_method_10_code 62 = .ok (.arraylength, 1) := by decide +kernel
theorem d6_63 : decode prog_17_method_10_code 63 = .ok (.iload 6, 2) := by decide +kernel
theorem d6_65 : decode prog_17_method_10_code 65 = .ok (.isub, 1) := by decide +kernel
theorem d6_66 : decode prog_17_method_10_code 66 = .ok (.invokestatic 58, 3) := by decide +kernel
theorem d6_69 : decode prog_17_method_10_code 69 = .ok (.aload_n 2, 1) := by decide +kernel
theorem d6_70 : decode prog_17_method_10_code 70 = .ok (.iconst 0, 1) := by decide +kernel
theorem d6_71 : decode prog_17_method_10_code 71 = .ok (.aload 5, 2) := by decide +kernel
theorem d6_73 : decode prog_17_method_10_code 73 = .ok (.aload_n 2, 1) := by decide +kernel
theorem d6_74 : decode prog_17_method_10_code 74 = .ok (.arraylength, 1) := by decide +kernel
theorem d6_75 : decode prog_17_method_10_code 75 = .ok (.iload 6, 2) := by decide +kernel
theorem d6_77 : decode prog_17_method_10_code 77 = .ok (.isub, 1) := by decide +kernel
theorem d6_78 : decode prog_17_method_10_code 78 = .ok (.iload 6, 2) := by decide +kernel
theorem d6_80 : decode prog_17_method_10_code 80 = .ok (.invokestatic 58, 3) := by decide +kernel
theorem d6_83 : decode prog_17_method_10_code 83 = .ok (.aload_n 0, 1) := by decide +kernel
theorem d6_84 : decode prog_17_method_10_code 84 = .ok (.getfield 18, 3) := by decide +kernel
theorem d6_87 : decode prog_17_method_10_code 87 = .ok (.iload_n 1, 1) := by decide +kernel
theorem d6_88 : decode prog_17_method_10_code 88 = .ok (.aload 5, 2) := by decide +kernel
theorem d6_90 : decode prog_17_method_10_code 90 = .ok (.aastore, 1) := by decide +kernel
theorem d6_91 : decode prog_17_method_10_code 91 = .ok (.aload_n 0, 1) := by decide +kernel
theorem d6_92 : decode prog_17_method_10_code 92 = .ok (.getfield 22, 3) := by decide +kernel
theorem d6_95 : decode prog_17_method_10_code 95 = .ok (.iload_n 1, 1) := by decide +kernel
theorem d6_96 : decode prog_17_method_10_code 96 = .ok (.iconst 0, 1) := by decide +kernel
theorem d6_97 : decode prog_17_method_10_code 97 = .ok (.iastore, 1) := by decide +kernel
theorem d6_98 : decode prog_17_method_10_code 98 = .ok (.aload 5, 2) := by decide +kernel
theorem d6_100 : decode prog_17_method_10_code 100 = .ok (.areturn, 1) := by decide +kernel
set_option maxRecDepth 65536 in
set_option maxHeartbeats 40000000 in
theorem grow0_0_1 (l : Launch) (Z : State) (a0 : Array Value) (hw : ∀ d ∈ tables_1, d.before a0 Z = true) (n0 : Nat) (h : Heap) (O : Old Z n0 h) (s_EMPTY : Addr) (H : En Z s_EMPTY) (c R F S : Addr) (kR kF kS : ClassId) (m f1 s1 : Int32) (r1 : Value) (hm : ¬ m.toInt64 < (1 : Int64)) (P : RC Z n0 h c R F S kR kF kS (1 : Int32) m (.ref s_EMPTY) r1 (0 : Int32) f1 (0 : Int32) s1) : Con l Z (⟨"com/example/request_throttle/requestthrottle/RingColumn", "grow", "(I)[J"⟩ : MethodName) prog_17_method_10_code 7 (some (.array .long)) ({ frames := 1, cells := 1, slots := 1, locals := 18 } : Room) #[(.ref c), (.int (0 : Int32))] h n0 (fun r h' => ∃ g kJ, r = some (.ref g) ∧ h.size ≤ g ∧ Keep h h' [R, F, S] ∧ Arv Z h' g kJ .long (1 : Int32) [(.long (0 : Int64))] (.long (0 : Int64)) ∧ RC Z n0 h' c R F S kR kF kS (1 : Int32) m (.ref g) r1 (0 : Int32) f1 (0 : Int32) s1) := by
  refine Con.mk (Ls := #[.val (.ref c), .val (.int (0 : Int32)), .unset, .unset, .unset, .unset, .unset]) (plainFor_of_name pn_0) (fun m => by first | (simp [entryFrame, mkF, argsToLocals, Value.category]; done) | rfl) (fun w C => ?_)
  replace C : Cx w l Z "com/example/request_throttle/requestthrottle/RingColumn" prog_17_method_10_code 7 (some (.array .long)) "grow" ({ frames := 1, cells := 1, slots := 1, locals := 18 } : Room) n0 := C
  obtain ⟨S_EMPTY, E_EMPTY, V_EMPTY⟩ := id H
  obtain ⟨kE, V_EMPTY⟩ := V_EMPTY
  obtain ⟨gc, gR, gF, gS, n_c_R, n_c_F, n_c_S, n_R_F, n_R_S, n_F_S, Ov, E0, Fw, Fm, FR, FF, FS, AR, AF, AS⟩ := P
  refine g_aloadN C (pc' := 1) d6_0 rfl rfl rfl ?_
  refine g_getF C (pc' := 4) (wd hw 19 rfl) Via.refl d6_1 rfl FR rfl ?_
  refine g_iloadN C (pc' := 5) d6_4 rfl rfl ?_
  refine g_aaload C (pc' := 6) (x := (.ref s_EMPTY)) d6_5 rfl AR rfl (by decide) (by decide) rfl rfl ?_
  refine g_astoreN C (pc' := 7) (Ls' := #[.val (.ref c), .val (.int (0 : Int32)), .val (.ref s_EMPTY), .unset, .unset, .unset, .unset]) d6_6 rfl rfl rfl rfl ?_
  refine g_lconst C (pc' := 8) (v := (1 : Int64)) d6_7 (by decide) rfl ?_
  refine g_ldc2Long C (pc' := 11) (wd hw 43 rfl) d6_8 rfl ?_
  refine g_aloadN C (pc' := 12) d6_11 rfl rfl rfl ?_
  refine g_alen C (pc' := 13) d6_12 rfl (V_EMPTY.ext O.2) rfl ?_
  refine g_i2l C (pc' := 14) d6_13 rfl rfl ?_
  rw [show (0 : Int32).toInt64 = (0 : Int64) from by decide]
  refine g_lmul C (pc' := 15) d6_14 rfl rfl ?_
  rw [show ((2 : Int64) * (0 : Int64)) = (0 : Int64) from by decide]
  refine g_aloadN C (pc' := 16) d6_15 rfl rfl rfl ?_
  refine g_getF C (pc' := 19) (wd hw 13 rfl) Via.refl d6_16 rfl Fw rfl ?_
  refine g_i2l C (pc' := 20) d6_19 rfl rfl ?_
  rw [show (1 : Int32).toInt64 = (1 : Int64) from by decide]
  refine g_ldiv C (pc' := 21) d6_20 rfl (by decide) rfl ?_
  rw [show ((0 : Int64) / (1 : Int64)) = (0 : Int64) from by decide]
  refine g_callS C (pc' := 24) (k' := 0) (n' := 0) (argsL := [(.long (1 : Int64)), (.long (0 : Int64))]) (rest := []) (wd hw 44 rfl) (wd hw 45 rfl) (wd hw 2 rfl) (wd hw 46 rfl) (by decide) d6_21 pd_6 rfl rfl rfl (max_1_0 l Z a0 hw n0 h O s_EMPTY H) (Nat.le_of_ble_eq_true rfl) (Nat.le_of_ble_eq_true rfl) (Nat.le_of_ble_eq_true rfl) (Nat.le_of_ble_eq_true rfl) rfl rfl rfl (fun v152 h151 q153 => ?_)
  obtain ⟨rfl, eh151⟩ := q153
  subst h151
  show G w _ h 0 0 24 #[.val (.ref c), .val (.int (0 : Int32)), .val (.ref s_EMPTY), .unset, .unset, .unset, .unset] [(.long (1 : Int64))]
  refine g_aloadN C (pc' := 25) d6_24 rfl rfl rfl ?_
  refine g_getF C (pc' := 28) (wd hw 15 rfl) Via.refl d6_25 rfl Fm rfl ?_
  refine g_i2l C (pc' := 29) d6_28 rfl rfl ?_
  refine g_callS C (pc' := 32) (k' := 0) (n' := 0) (argsL := [(.long (1 : Int64)), (.long m.toInt64)]) (rest := []) (wd hw 47 rfl) (wd hw 48 rfl) (wd hw 2 rfl) (wd hw 49 rfl) (by decide) d6_29 pd_6 rfl rfl rfl (min_1 l Z a0 hw n0 h O s_EMPTY H m hm) (Nat.le_of_ble_eq_true rfl) (Nat.le_of_ble_eq_true rfl) (Nat.le_of_ble_eq_true rfl) (Nat.le_of_ble_eq_true rfl) rfl rfl rfl (fun v155 h154 q156 => ?_)
  obtain ⟨rfl, eh154⟩ := q156
  subst h154
  show G w _ h 0 0 32 #[.val (.ref c), .val (.int (0 : Int32)), .val (.ref s_EMPTY), .unset, .unset, .unset, .unset] [(.long (1 : Int64))]
  refine g_lstoreN C (pc' := 33) (Ls' := #[.val (.ref c), .val (.int (0 : Int32)), .val (.ref s_EMPTY), .val (.long (1 : Int64)), .second, .unset, .unset]) d6_32 rfl rfl rfl ?_
  refine g_lloadN C (pc' := 34) d6_33 rfl rfl ?_
  refine g_aloadN C (pc' := 35) d6_34 rfl rfl rfl ?_
  refine g_getF C (pc' := 38) (wd hw 13 rfl) Via.refl d6_35 rfl Fw rfl ?_
  refine g_i2l C (pc' := 39) d6_38 rfl rfl ?_
  rw [show (1 : Int32).toInt64 = (1 : Int64) from by decide]
  refine g_lmul C (pc' := 40) d6_39 rfl rfl ?_
  rw [show ((1 : Int64) * (1 : Int64)) = (1 : Int64) from by decide]
  refine g_callS C (pc' := 43) (k' := 0) (n' := 0) (argsL := [(.long (1 : Int64))]) (rest := []) (wd hw 50 rfl) (wd hw 51 rfl) (wd hw 2 rfl) (wd hw 52 rfl) (by decide) d6_40 pd_7 rfl rfl rfl (tie_1 l Z a0 hw n0 h O s_EMPTY H) (Nat.le_of_ble_eq_true rfl) (Nat.le_of_ble_eq_true rfl) (Nat.le_of_ble_eq_true rfl) (Nat.le_of_ble_eq_true rfl) rfl rfl rfl (fun v158 h157 q159 => ?_)
  obtain ⟨rfl, eh157⟩ := q159
  subst h157
  show G w _ h 0 0 43 #[.val (.ref c), .val (.int (0 : Int32)), .val (.ref s_EMPTY), .val (.long (1 : Int64)), .second, .unset, .unset] [(.int (1 : Int32))]
  refine g_newPE C (pc' := 45) (k' := 1) (n' := 1) (cap := 1) (ad := "[J") (wd hw 53 rfl) (by decide) d6_43 rfl (by decide) (by decide) (by decide) (by decide) (by decide) rfl rfl rfl (fun h160 b161 kA162 ex163 E164 A165 B166 => ?_)
  have ne_c_b161 : c ≠ b161 := Nat.ne_of_lt (by rw [ex163]; exact E0.lt)
  have ne_R_b161 : R ≠ b161 := Nat.ne_of_lt (by rw [ex163]; exact AR.lt)
  have ne_F_b161 : F ≠ b161 := Nat.ne_of_lt (by rw [ex163]; exact AF.lt)
  have ne_S_b161 : S ≠ b161 := Nat.ne_of_lt (by rw [ex163]; exact AS.lt)
  have ne_s_EMPTY_b161 : s_EMPTY ≠ b161 := Nat.ne_of_lt (by rw [ex163]; exact (V_EMPTY.ext O.2).lt)
  have ge_b161 : n0 ≤ b161 := by rw [ex163]; exact O.1 ▸ O.2.1
  have sz_b161 : h.size ≤ b161 := by rw [ex163]; exact (Keep.refl h [R, F, S]).1
  have f167 := O.ext E164
  have f168 := E0.ext E164
  have f169 := Fw.ext E164
  have f170 := Fm.ext E164
  have f171 := FR.ext E164
  have f172 := FF.ext E164
  have f173 := FS.ext E164
  have f174 := AR.ext E164
  have f175 := AF.ext E164
  have f176 := AS.ext E164
  have f177 := (Keep.refl h [R, F, S]).ext E164
  have f178 := (V_EMPTY.ext O.2).ext E164
  have A179 : Arv Z h160 b161 kA162 .long (1 : Int32) [(.long (0 : Int64))] (.long (0 : Int64)) := A165.pad (pad_rep [] (.long (0 : Int64)) 1)
  refine g_astore C (pc' := 47) (Ls' := #[.val (.ref c), .val (.int (0 : Int32)), .val (.ref s_EMPTY), .val (.long (1 : Int64)), .second, .val (.ref b161), .unset]) d6_45 rfl rfl rfl rfl ?_
  refine g_aloadN C (pc' := 48) d6_47 rfl rfl rfl ?_
  refine g_getF C (pc' := 51) (wd hw 22 rfl) Via.refl d6_48 rfl f172 rfl ?_
  refine g_iloadN C (pc' := 52) d6_51 rfl rfl ?_
  refine g_iaload C (pc' := 53) (x := (0 : Int32)) d6_52 rfl f175 (by decide) (by decide) rfl rfl ?_
  refine g_istore C (pc' := 55) (Ls' := #[.val (.ref c), .val (.int (0 : Int32)), .val (.ref s_EMPTY), .val (.long (1 : Int64)), .second, .val (.ref b161), .val (.int (0 : Int32))]) d6_53 rfl rfl rfl ?_
  refine g_aloadN C (pc' := 56) d6_55 rfl rfl rfl ?_
  refine g_iload C (pc' := 58) d6_56 rfl rfl ?_
  refine g_aload C (pc' := 60) d6_58 rfl rfl rfl ?_
  refine g_iconst C (pc' := 61) (v := (0 : Int32)) d6_60 (by decide) rfl ?_
  refine g_aloadN C (pc' := 62) d6_61 rfl rfl rfl ?_
  refine g_alen C (pc' := 63) d6_62 rfl f178 rfl ?_
  refine g_iload C (pc' := 65) d6_63 rfl rfl ?_
  refine g_isub C (pc' := 66) d6_65 rfl rfl ?_
  rw [show ((0 : Int32) - (0 : Int32)) = (0 : Int32) from by decide]
  refine g_cpA C (pc' := 69) (us := []) (wd hw 54 rfl) (wd hw 57 rfl) (wd hw 55 rfl) (wd hw 56 rfl) d6_66 rfl rfl f178 A179 (Or.inl ⟨rfl, rfl⟩) (by decide) (by decide) (by decide) (Nat.le_of_ble_eq_true rfl) (Nat.le_of_ble_eq_true rfl) rfl (Nat.le_of_ble_eq_true rfl) ge_b161 (Nat.le_of_ble_eq_true rfl) (Nat.le_of_ble_eq_true rfl) rfl (fun h180 K181 A182 => ?_)
  have f183 := f167.keep K181 (allS ge_b161 all0)
  have f184 := f168.keep K181
  have f185 := f169.keep K181 (ninS ne_c_b161 nin0)
  have f186 := f170.keep K181 (ninS ne_c_b161 nin0)
  have f187 := f171.keep K181 (ninS ne_c_b161 nin0)
  have f188 := f172.keep K181 (ninS ne_c_b161 nin0)
  have f189 := f173.keep K181 (ninS ne_c_b161 nin0)
  have f190 := f174.keep K181 (ninS ne_R_b161 nin0)
  have f191 := f175.keep K181 (ninS ne_F_b161 nin0)
  have f192 := f176.keep K181 (ninS ne_S_b161 nin0)
  have f193 := f177.trans K181 (allS (Or.inr sz_b161) all0)
  have f194 := f178.keep K181 (ninS ne_s_EMPTY_b161 nin0)
  have f195 := B166.keep K181
  have A196 : Arv Z h180 b161 kA162 .long (1 : Int32) [(.long (0 : Int64))] (.long (0 : Int64)) := A182
  refine g_aloadN C (pc' := 70) d6_69 rfl rfl rfl ?_
  refine g_iconst C (pc' := 71) (v := (0 : Int32)) d6_70 (by decide) rfl ?_
  refine g_aload C (pc' := 73) d6_71 rfl rfl rfl ?_
  refine g_aloadN C (pc' := 74) d6_73 rfl rfl rfl ?_
  refine g_alen C (pc' := 75) d6_74 rfl f194 rfl ?_
  refine g_iload C (pc' := 77) d6_75 rfl rfl ?_
  refine g_isub C (pc' := 78) d6_77 rfl rfl ?_
  rw [show ((0 : Int32) - (0 : Int32)) = (0 : Int32) from by decide]
  refine g_iload C (pc' := 80) d6_78 rfl rfl ?_
  refine g_cpA C (pc' := 83) (us := []) (wd hw 54 rfl) (wd hw 57 rfl) (wd hw 55 rfl) (wd hw 56 rfl) d6_80 rfl rfl f194 A196 (Or.inl ⟨rfl, rfl⟩) (by decide) (by decide) (by decide) (Nat.le_of_ble_eq_true rfl) (Nat.le_of_ble_eq_true rfl) rfl (Nat.le_of_ble_eq_true rfl) ge_b161 (Nat.le_of_ble_eq_true rfl) (Nat.le_of_ble_eq_true rfl) rfl (fun h197 K198 A199 => ?_)
  have f200 := f183.keep K198 (allS ge_b161 all0)
  have f201 := f184.keep K198
  have f202 := f185.keep K198 (ninS ne_c_b161 nin0)
  have f203 := f186.keep K198 (ninS ne_c_b161 nin0)
  have f204 := f187.keep K198 (ninS ne_c_b161 nin0)
  have f205 := f188.keep K198 (ninS ne_c_b161 nin0)
  have f206 := f189.keep K198 (ninS ne_c_b161 nin0)
  have f207 := f190.keep K198 (ninS ne_R_b161 nin0)
  have f208 := f191.keep K198 (ninS ne_F_b161 nin0)
  have f209 := f192.keep K198 (ninS ne_S_b161 nin0)
  have f210 := f193.trans K198 (allS (Or.inr sz_b161) all0)
  have f211 := f194.keep K198 (ninS ne_s_EMPTY_b161 nin0)
  have f212 := f195.keep K198
  have A213 : Arv Z h197 b161 kA162 .long (1 : Int32) [(.long (0 : Int64))] (.long (0 : Int64)) := A199
  refine g_aloadN C (pc' := 84) d6_83 rfl rfl rfl ?_
  refine g_getF C (pc' := 87) (wd hw 19 rfl) Via.refl d6_84 rfl f204 rfl ?_
  refine g_iloadN C (pc' := 88) d6_87 rfl rfl ?_
  refine g_aload C (pc' := 90) d6_88 rfl rfl rfl ?_
  refine g_aastore C (pc' := 91) d6_90 rfl f207 rfl (stoA f207 Ov f212) (by decide) (by decide) gR rfl (fun h214 W215 => ?_)
  have f216 := f200.wr W215 gR
  have f217 := f201.wr W215
  have f218 := f202.other W215 (Or.inl n_c_R)
  have f219 := f203.other W215 (Or.inl n_c_R)
  have f220 := f204.other W215 (Or.inl n_c_R)
  have f221 := f205.other W215 (Or.inl n_c_R)
  have f222 := f206.other W215 (Or.inl n_c_R)
  have f223 := (arv_put f207 rfl W215 (i := 0) rfl (Nat.le_of_ble_eq_true rfl) : Arv Z h214 R kR (.array .long) (2 : Int32) [(.ref b161), r1] .null)
  have f224 := f208.other W215 (Ne.symm n_R_F)
  have f225 := f209.other W215 (Ne.symm n_R_S)
  have f226 := f210.wr W215 (Or.inl (List.mem_of_getElem? (i := 0) rfl))
  have f227 := f211.other W215 (own_old O V_EMPTY.lt gR)
  have f228 := f212.wr W215
  have f229 := A213.other W215 (Ne.symm ne_R_b161)
  refine g_aloadN C (pc' := 92) d6_91 rfl rfl rfl ?_
  refine g_getF C (pc' := 95) (wd hw 22 rfl) Via.refl d6_92 rfl f221 rfl ?_
  refine g_iloadN C (pc' := 96) d6_95 rfl rfl ?_
  refine g_iconst C (pc' := 97) (v := (0 : Int32)) d6_96 (by decide) rfl ?_
  refine g_iastore C (pc' := 98) d6_97 rfl f224 (by decide) (by decide) gF rfl (fun h230 W231 => ?_)
  have f232 := f216.wr W231 gF
  have f233 := f217.wr W231
  have f234 := f218.other W231 (Or.inl n_c_F)
  have f235 := f219.other W231 (Or.inl n_c_F)
  have f236 := f220.other W231 (Or.inl n_c_F)
  have f237 := f221.other W231 (Or.inl n_c_F)
  have f238 := f222.other W231 (Or.inl n_c_F)
  have f239 := f223.other W231 n_R_F
  have f240 := (arv_put f224 rfl W231 (i := 0) rfl (Nat.le_of_ble_eq_true rfl) : Arv Z h230 F kF .int (2 : Int32) [(.int (0 : Int32)), (.int f1)] (.int (0 : Int32)))
  have f241 := f225.other W231 (Ne.symm n_F_S)
  have f242 := f226.wr W231 (Or.inl (List.mem_of_getElem? (i := 1) rfl))
  have f243 := f227.other W231 (own_old O V_EMPTY.lt gF)
  have f244 := f228.wr W231
  have f245 := f229.other W231 (Ne.symm ne_F_b161)
  refine g_aload C (pc' := 100) d6_98 rfl rfl rfl ?_
  exact g_areturn C d6_100 rfl rfl rfl rfl (Nat.le_of_ble_eq_true rfl) (Nat.le_of_ble_eq_true rfl) (⟨b161, kA162, rfl, sz_b161, f242, f245, ⟨gc, gR, gF, gS, n_c_R, n_c_F, n_c_S, n_R_F, n_R_S, n_F_S, Ov, f233, f234, f235, f236, f237, f238, f239, f240, f241⟩⟩)
set_option maxRecDepth 65536 in
set_option maxHeartbeats 40000000 in
theorem grow1_0_1 (l : Launch) (Z : State) (a0 : Array Value) (hw : ∀ d ∈ tables_1, d.before a0 Z = true) (n0 : Nat) (h : Heap) (O : Old Z n0 h) (s_EMPTY : Addr) (H : En Z s_EMPTY) (c R F S : Addr) (kR kF kS : ClassId) (m f1 s1 : Int32) (r1 : Value) (rg : Addr) (grg : n0 ≤ rg) (kJ : ClassId) (y0 : Int64) (Ar : Arv Z h rg kJ .long (1 : Int32) [(.long y0)] (.long (0 : Int64))) (nR : rg ≠ R) (nF : rg ≠ F) (nS : rg ≠ S) (hm : ¬ m.toInt64 < (2 : Int64)) (P : RC Z n0 h c R F S kR kF kS (1 : Int32) m (.ref rg) r1 (0 : Int32) f1 (1 : Int32) s1) : Con l Z (⟨"com/example/request_throttle/requestthrottle/RingColumn", "grow", "(I)[J"⟩ : MethodName) prog_17_method_10_code 7 (some (.array .long)) ({ frames := 1, cells := 1, slots := 2, locals := 18 } : Room) #[(.ref c), (.int (0 : Int32))] h n0 (fun r h' => ∃ g kJ, r = some (.ref g) ∧ h.size ≤ g ∧ Keep h h' [R, F, S] ∧ Arv Z h' g kJ .long (2 : Int32) [(.long y0), (.long (0 : Int64))] (.long (0 : Int64)) ∧ RC Z n0 h' c R F S kR kF kS (1 : Int32) m (.ref g) r1 (0 : Int32) f1 (1 : Int32) s1) := by
  refine Con.mk (Ls := #[.val (.ref c), .val (.int (0 : Int32)), .unset, .unset, .unset, .unset, .unset]) (plainFor_of_name pn_0) (fun m => by first | (simp [entryFrame, mkF, argsToLocals, Value.category]; done) | rfl) (fun w C => ?_)
  replace C : Cx w l Z "com/example/request_throttle/requestthrottle/RingColumn" prog_17_method_10_code 7 (some (.array .long)) "grow" ({ frames := 1, cells := 1, slots := 2, locals := 18 } : Room) n0 := C
  obtain ⟨S_EMPTY, E_EMPTY, V_EMPTY⟩ := id H
  obtain ⟨kE, V_EMPTY⟩ := V_EMPTY
  obtain ⟨gc, gR, gF, gS, n_c_R, n_c_F, n_c_S, n_R_F, n_R_S, n_F_S, Ov, E0, Fw, Fm, FR, FF, FS, AR, AF, AS⟩ := P
  refine g_aloadN C (pc' := 1) d6_0 rfl rfl rfl ?_
  refine g_getF C (pc' := 4) (wd hw 19 rfl) Via.refl d6_1 rfl FR rfl ?_
  refine g_iloadN C (pc' := 5) d6_4 rfl rfl ?_
  refine g_aaload C (pc' := 6) (x := (.ref rg)) d6_5 rfl AR rfl (by decide) (by decide) rfl rfl ?_
  refine g_astoreN C (pc' := 7) (Ls' := #[.val (.ref c), .val (.int (0 : Int32)), .val (.ref rg), .unset, .unset, .unset, .unset]) d6_6 rfl rfl rfl rfl ?_
  refine g_lconst C (pc' := 8) (v := (1 : Int64)) d6_7 (by decide) rfl ?_
  refine g_ldc2Long C (pc' := 11) (wd hw 43 rfl) d6_8 rfl ?_
  refine g_aloadN C (pc' := 12) d6_11 rfl rfl rfl ?_
  refine g_alen C (pc' := 13) d6_12 rfl Ar rfl ?_
  refine g_i2l C (pc' := 14) d6_13 rfl rfl ?_
  rw [show (1 : Int32).toInt64 = (1 : Int64) from by decide]
  refine g_lmul C (pc' := 15) d6_14 rfl rfl ?_
  rw [show ((2 : Int64) * (1 : Int64)) = (2 : Int64) from by decide]
  refine g_aloadN C (pc' := 16) d6_15 rfl rfl rfl ?_
  refine g_getF C (pc' := 19) (wd hw 13 rfl) Via.refl d6_16 rfl Fw rfl ?_
  refine g_i2l C (pc' := 20) d6_19 rfl rfl ?_
  rw [show (1 : Int32).toInt64 = (1 : Int64) from by decide]
  refine g_ldiv C (pc' := 21) d6_20 rfl (by decide) rfl ?_
  rw [show ((2 : Int64) / (1 : Int64)) = (2 : Int64) from by decide]
  refine g_callS C (pc' := 24) (k' := 0) (n' := 0) (argsL := [(.long (1 : Int64)), (.long (2 : Int64))]) (rest := []) (wd hw 44 rfl) (wd hw 45 rfl) (wd hw 2 rfl) (wd hw 46 rfl) (by decide) d6_21 pd_6 rfl rfl rfl (max_1_2 l Z a0 hw n0 h O s_EMPTY H) (Nat.le_of_ble_eq_true rfl) (Nat.le_of_ble_eq_true rfl) (Nat.le_of_ble_eq_true rfl) (Nat.le_of_ble_eq_true rfl) rfl rfl rfl (fun v247 h246 q248 => ?_)
  obtain ⟨rfl, eh246⟩ := q248
  subst h246
  show G w _ h 0 0 24 #[.val (.ref c), .val (.int (0 : Int32)), .val (.ref rg), .unset, .unset, .unset, .unset] [(.long (2 : Int64))]
  refine g_aloadN C (pc' := 25) d6_24 rfl rfl rfl ?_
  refine g_getF C (pc' := 28) (wd hw 15 rfl) Via.refl d6_25 rfl Fm rfl ?_
  refine g_i2l C (pc' := 29) d6_28 rfl rfl ?_
  refine g_callS C (pc' := 32) (k' := 0) (n' := 0) (argsL := [(.long (2 : Int64)), (.long m.toInt64)]) (rest := []) (wd hw 47 rfl) (wd hw 48 rfl) (wd hw 2 rfl) (wd hw 49 rfl) (by decide) d6_29 pd_6 rfl rfl rfl (min_2 l Z a0 hw n0 h O s_EMPTY H m hm) (Nat.le_of_ble_eq_true rfl) (Nat.le_of_ble_eq_true rfl) (Nat.le_of_ble_eq_true rfl) (Nat.le_of_ble_eq_true rfl) rfl rfl rfl (fun v250 h249 q251 => ?_)
  obtain ⟨rfl, eh249⟩ := q251
  subst h249
  show G w _ h 0 0 32 #[.val (.ref c), .val (.int (0 : Int32)), .val (.ref rg), .unset, .unset, .unset, .unset] [(.long (2 : Int64))]
  refine g_lstoreN C (pc' := 33) (Ls' := #[.val (.ref c), .val (.int (0 : Int32)), .val (.ref rg), .val (.long (2 : Int64)), .second, .unset, .unset]) d6_32 rfl rfl rfl ?_
  refine g_lloadN C (pc' := 34) d6_33 rfl rfl ?_
  refine g_aloadN C (pc' := 35) d6_34 rfl rfl rfl ?_
  refine g_getF C (pc' := 38) (wd hw 13 rfl) Via.refl d6_35 rfl Fw rfl ?_
  refine g_i2l C (pc' := 39) d6_38 rfl rfl ?_
  rw [show (1 : Int32).toInt64 = (1 : Int64) from by decide]
  refine g_lmul C (pc' := 40) d6_39 rfl rfl ?_
  rw [show ((2 : Int64) * (1 : Int64)) = (2 : Int64) from by decide]
  refine g_callS C (pc' := 43) (k' := 0) (n' := 0) (argsL := [(.long (2 : Int64))]) (rest := []) (wd hw 50 rfl) (wd hw 51 rfl) (wd hw 2 rfl) (wd hw 52 rfl) (by decide) d6_40 pd_7 rfl rfl rfl (tie_2 l Z a0 hw n0 h O s_EMPTY H) (Nat.le_of_ble_eq_true rfl) (Nat.le_of_ble_eq_true rfl) (Nat.le_of_ble_eq_true rfl) (Nat.le_of_ble_eq_true rfl) rfl rfl rfl (fun v253 h252 q254 => ?_)
  obtain ⟨rfl, eh252⟩ := q254
  subst h252
  show G w _ h 0 0 43 #[.val (.ref c), .val (.int (0 : Int32)), .val (.ref rg), .val (.long (2 : Int64)), .second, .unset, .unset] [(.int (2 : Int32))]
  refine g_newPE C (pc' := 45) (k' := 1) (n' := 2) (cap := 2) (ad := "[J") (wd hw 53 rfl) (by decide) d6_43 rfl (by decide) (by decide) (by decide) (by decide) (by decide) rfl rfl rfl (fun h255 b256 kA257 ex258 E259 A260 B261 => ?_)
  have ne_c_b256 : c ≠ b256 := Nat.ne_of_lt (by rw [ex258]; exact E0.lt)
  have ne_R_b256 : R ≠ b256 := Nat.ne_of_lt (by rw [ex258]; exact AR.lt)
  have ne_F_b256 : F ≠ b256 := Nat.ne_of_lt (by rw [ex258]; exact AF.lt)
  have ne_S_b256 : S ≠ b256 := Nat.ne_of_lt (by rw [ex258]; exact AS.lt)
  have ne_rg_b256 : rg ≠ b256 := Nat.ne_of_lt (by rw [ex258]; exact Ar.lt)
  have ge_b256 : n0 ≤ b256 := by rw [ex258]; exact O.1 ▸ O.2.1
  have sz_b256 : h.size ≤ b256 := by rw [ex258]; exact (Keep.refl h [R, F, S]).1
  have f262 := O.ext E259
  have f263 := E0.ext E259
  have f264 := Fw.ext E259
  have f265 := Fm.ext E259
  have f266 := FR.ext E259
  have f267 := FF.ext E259
  have f268 := FS.ext E259
  have f269 := AR.ext E259
  have f270 := AF.ext E259
  have f271 := AS.ext E259
  have f272 := (Keep.refl h [R, F, S]).ext E259
  have f273 := Ar.ext E259
  have A274 : Arv Z h255 b256 kA257 .long (2 : Int32) [(.long (0 : Int64)), (.long (0 : Int64))] (.long (0 : Int64)) := A260.pad (pad_rep [] (.long (0 : Int64)) 2)
  refine g_astore C (pc' := 47) (Ls' := #[.val (.ref c), .val (.int (0 : Int32)), .val (.ref rg), .val (.long (2 : Int64)), .second, .val (.ref b256), .unset]) d6_45 rfl rfl rfl rfl ?_
  refine g_aloadN C (pc' := 48) d6_47 rfl rfl rfl ?_
  refine g_getF C (pc' := 51) (wd hw 22 rfl) Via.refl d6_48 rfl f267 rfl ?_
  refine g_iloadN C (pc' := 52) d6_51 rfl rfl ?_
  refine g_iaload C (pc' := 53) (x := (0 : Int32)) d6_52 rfl f270 (by decide) (by decide) rfl rfl ?_
  refine g_istore C (pc' := 55) (Ls' := #[.val (.ref c), .val (.int (0 : Int32)), .val (.ref rg), .val (.long (2 : Int64)), .second, .val (.ref b256), .val (.int (0 : Int32))]) d6_53 rfl rfl rfl ?_
  refine g_aloadN C (pc' := 56) d6_55 rfl rfl rfl ?_
  refine g_iload C (pc' := 58) d6_56 rfl rfl ?_
  refine g_aload C (pc' := 60) d6_58 rfl rfl rfl ?_
  refine g_iconst C (pc' := 61) (v := (0 : Int32)) d6_60 (by decide) rfl ?_
  refine g_aloadN C (pc' := 62) d6_61 rfl rfl rfl ?_
  refine g_alen C (pc' := 63) d6_62 rfl f273 rfl ?_
  refine g_iload C (pc' := 65) d6_63 rfl rfl ?_
  refine g_isub C (pc' := 66) d6_65 rfl rfl ?_
  rw [show ((1 : Int32) - (0 : Int32)) = (1 : Int32) from by decide]
  refine g_cpA C (pc' := 69) (us := [(.long y0)]) (wd hw 54 rfl) (wd hw 57 rfl) (wd hw 55 rfl) (wd hw 56 rfl) d6_66 rfl rfl f273 A274 (Or.inl ⟨rfl, rfl⟩) (by decide) (by decide) (by decide) (Nat.le_of_ble_eq_true rfl) (Nat.le_of_ble_eq_true rfl) rfl (Nat.le_of_ble_eq_true rfl) ge_b256 (Nat.le_of_ble_eq_true rfl) (Nat.le_of_ble_eq_true rfl) rfl (fun h275 K276 A277 => ?_)
  have f278 := f262.keep K276 (allS ge_b256 all0)
  have f279 := f263.keep K276
  have f280 := f264.keep K276 (ninS ne_c_b256 nin0)
  have f281 := f265.keep K276 (ninS ne_c_b256 nin0)
  have f282 := f266.keep K276 (ninS ne_c_b256 nin0)
  have f283 := f267.keep K276 (ninS ne_c_b256 nin0)
  have f284 := f268.keep K276 (ninS ne_c_b256 nin0)
  have f285 := f269.keep K276 (ninS ne_R_b256 nin0)
  have f286 := f270.keep K276 (ninS ne_F_b256 nin0)
  have f287 := f271.keep K276 (ninS ne_S_b256 nin0)
  have f288 := f272.trans K276 (allS (Or.inr sz_b256) all0)
  have f289 := f273.keep K276 (ninS ne_rg_b256 nin0)
  have f290 := B261.keep K276
  have A291 : Arv Z h275 b256 kA257 .long (2 : Int32) [(.long y0), (.long (0 : Int64))] (.long (0 : Int64)) := A277
  refine g_aloadN C (pc' := 70) d6_69 rfl rfl rfl ?_
  refine g_iconst C (pc' := 71) (v := (0 : Int32)) d6_70 (by decide) rfl ?_
  refine g_aload C (pc' := 73) d6_71 rfl rfl rfl ?_
  refine g_aloadN C (pc' := 74) d6_73 rfl rfl rfl ?_
  refine g_alen C (pc' := 75) d6_74 rfl f289 rfl ?_
  refine g_iload C (pc' := 77) d6_75 rfl rfl ?_
  refine g_isub C (pc' := 78) d6_77 rfl rfl ?_
  rw [show ((1 : Int32) - (0 : Int32)) = (1 : Int32) from by decide]
  refine g_iload C (pc' := 80) d6_78 rfl rfl ?_
  refine g_cpA C (pc' := 83) (us := []) (wd hw 54 rfl) (wd hw 57 rfl) (wd hw 55 rfl) (wd hw 56 rfl) d6_80 rfl rfl f289 A291 (Or.inl ⟨rfl, rfl⟩) (by decide) (by decide) (by decide) (Nat.le_of_ble_eq_true rfl) (Nat.le_of_ble_eq_true rfl) rfl (Nat.le_of_ble_eq_true rfl) ge_b256 (Nat.le_of_ble_eq_true rfl) (Nat.le_of_ble_eq_true rfl) rfl (fun h292 K293 A294 => ?_)
  have f295 := f278.keep K293 (allS ge_b256 all0)
  have f296 := f279.keep K293
  have f297 := f280.keep K293 (ninS ne_c_b256 nin0)
  have f298 := f281.keep K293 (ninS ne_c_b256 nin0)
  have f299 := f282.keep K293 (ninS ne_c_b256 nin0)
  have f300 := f283.keep K293 (ninS ne_c_b256 nin0)
  have f301 := f284.keep K293 (ninS ne_c_b256 nin0)
  have f302 := f285.keep K293 (ninS ne_R_b256 nin0)
  have f303 := f286.keep K293 (ninS ne_F_b256 nin0)
  have f304 := f287.keep K293 (ninS ne_S_b256 nin0)
  have f305 := f288.trans K293 (allS (Or.inr sz_b256) all0)
  have f306 := f289.keep K293 (ninS ne_rg_b256 nin0)
  have f307 := f290.keep K293
  have A308 : Arv Z h292 b256 kA257 .long (2 : Int32) [(.long y0), (.long (0 : Int64))] (.long (0 : Int64)) := A294
  refine g_aloadN C (pc' := 84) d6_83 rfl rfl rfl ?_
  refine g_getF C (pc' := 87) (wd hw 19 rfl) Via.refl d6_84 rfl f299 rfl ?_
  refine g_iloadN C (pc' := 88) d6_87 rfl rfl ?_
  refine g_aload C (pc' := 90) d6_88 rfl rfl rfl ?_
  refine g_aastore C (pc' := 91) d6_90 rfl f302 rfl (stoA f302 Ov f307) (by decide) (by decide) gR rfl (fun h309 W310 => ?_)
  have f311 := f295.wr W310 gR
  have f312 := f296.wr W310
  have f313 := f297.other W310 (Or.inl n_c_R)
  have f314 := f298.other W310 (Or.inl n_c_R)
  have f315 := f299.other W310 (Or.inl n_c_R)
  have f316 := f300.other W310 (Or.inl n_c_R)
  have f317 := f301.other W310 (Or.inl n_c_R)
  have f318 := (arv_put f302 rfl W310 (i := 0) rfl (Nat.le_of_ble_eq_true rfl) : Arv Z h309 R kR (.array .long) (2 : Int32) [(.ref b256), r1] .null)
  have f319 := f303.other W310 (Ne.symm n_R_F)
  have f320 := f304.other W310 (Ne.symm n_R_S)
  have f321 := f305.wr W310 (Or.inl (List.mem_of_getElem? (i := 0) rfl))
  have f322 := f306.other W310 nR
  have f323 := f307.wr W310
  have f324 := A308.other W310 (Ne.symm ne_R_b256)
  refine g_aloadN C (pc' := 92) d6_91 rfl rfl rfl ?_
  refine g_getF C (pc' := 95) (wd hw 22 rfl) Via.refl d6_92 rfl f316 rfl ?_
  refine g_iloadN C (pc' := 96) d6_95 rfl rfl ?_
  refine g_iconst C (pc' := 97) (v := (0 : Int32)) d6_96 (by decide) rfl ?_
  refine g_iastore C (pc' := 98) d6_97 rfl f319 (by decide) (by decide) gF rfl (fun h325 W326 => ?_)
  have f327 := f311.wr W326 gF
  have f328 := f312.wr W326
  have f329 := f313.other W326 (Or.inl n_c_F)
  have f330 := f314.other W326 (Or.inl n_c_F)
  have f331 := f315.other W326 (Or.inl n_c_F)
  have f332 := f316.other W326 (Or.inl n_c_F)
  have f333 := f317.other W326 (Or.inl n_c_F)
  have f334 := f318.other W326 n_R_F
  have f335 := (arv_put f319 rfl W326 (i := 0) rfl (Nat.le_of_ble_eq_true rfl) : Arv Z h325 F kF .int (2 : Int32) [(.int (0 : Int32)), (.int f1)] (.int (0 : Int32)))
  have f336 := f320.other W326 (Ne.symm n_F_S)
  have f337 := f321.wr W326 (Or.inl (List.mem_of_getElem? (i := 1) rfl))
  have f338 := f322.other W326 nF
  have f339 := f323.wr W326
  have f340 := f324.other W326 (Ne.symm ne_F_b256)
  refine g_aload C (pc' := 100) d6_98 rfl rfl rfl ?_
  exact g_areturn C d6_100 rfl rfl rfl rfl (Nat.le_of_ble_eq_true rfl) (Nat.le_of_ble_eq_true rfl) (⟨b256, kA257, rfl, sz_b256, f337, f340, ⟨gc, gR, gF, gS, n_c_R, n_c_F, n_c_S, n_R_F, n_R_S, n_F_S, Ov, f328, f329, f330, f331, f332, f333, f334, f335, f336⟩⟩)
theorem d5_0 : decode prog_17_method_6_code 0 = .ok (.aload_n 0, 1) := by decide +kernel
theorem d5_1 : decode prog_17_method_6_code 1 = .ok (.getfield 18, 3) := by decide +kernel
theorem d5_4 : decode prog_17_method_6_code 4 = .ok (.iload_n 1, 1) := by decide +kernel
theorem d5_5 : decode prog_17_method_6_code 5 = .ok (.aaload, 1) := by decide +kernel
theorem d5_6 : decode prog_17_method_6_code 6 = .ok (.astore 4, 2) := by decide +kernel
theorem d5_8 : decode prog_17_method_6_code 8 = .ok (.aload_n 0, 1) := by decide +kernel
theorem d5_9 : decode prog_17_method_6_code 9 = .ok (.getfield 26, 3) := by decide +kernel
theorem d5_12 : decode prog_17_method_6_code 12 = .ok (.iload_n 1, 1) := by decide +kernel
theorem d5_13 : decode prog_17_method_6_code 13 = .ok (.iaload, 1) := by decide +kernel
theorem d5_14 : decode prog_17_method_6_code 14 = .ok (.aload_n 0, 1) := by decide +kernel
theorem d5_15 : decode prog_17_method_6_code 15 = .ok (.getfield 7, 3) := by decide +kernel
theorem d5_18 : decode prog_17_method_6_code 18 = .ok (.imul, 1) := by decide +kernel
theorem d5_19 : decode prog_17_method_6_code 19 = .ok (.aload 4, 2) := by decide +kernel
theorem d5_21 : decode prog_17_method_6_code 21 = .ok (.arraylength, 1) := by decide +kernel
theorem d5_22 : decode prog_17_method_6_code 22 = .ok (.if_icmp .ne 10, 3) := by decide +kernel
theorem d5_25 : decode prog_17_method_6_code 25 = .ok (.aload_n 0, 1) := by decide +kernel
theorem d5_26 : decode prog_17_method_6_code 26 = .ok (.iload_n 1, 1) := by decide +kernel
theorem d5_27 : decode prog_17_method_6_code 27 = .ok (.invokevirtual 36, 3) := by decide +kernel
theorem pd_5 : parseMethodDescriptor "(I)[J" = some ⟨[.int], some (.array .long)⟩ := by decide +kernel
theorem d5_30 : decode prog_17_method_6_code 30 = .ok (.astore 4, 2) := by decide +kernel
theorem d5_32 : decode prog_17_method_6_code 32 = .ok (.aload 4, 2) := by decide +kernel
theorem d5_34 : decode prog_17_method_6_code 34 = .ok (.aload_n 0, 1) := by decide +kernel
theorem d5_35 : decode prog_17_method_6_code 35 = .ok (.aload 4, 2) := by decide +kernel
theorem d5_37 : decode prog_17_method_6_code 37 = .ok (.iload_n 1, 1) := by decide +kernel
theorem d5_38 : decode prog_17_method_6_code 38 = .ok (.aload_n 0, 1) := by decide +kernel
theorem d5_39 : decode prog_17_method_6_code 39 = .ok (.getfield 26, 3) := by decide +kernel
theorem d5_42 : decode prog_17_method_6_code 42 = .ok (.iload_n 1, 1) := by decide +kernel
theorem d5_43 : decode prog_17_method_6_code 43 = .ok (.iaload, 1) := by decide +kernel
theorem d5_44 : decode prog_17_method_6_code 44 = .ok (.invokevirtual 32, 3) := by decide +kernel
theorem pd_9 : parseMethodDescriptor "([JII)I" = some ⟨[(.array .long), .int, .int], some .int⟩ := by decide +kernel
theorem d5_47 : decode prog_17_method_6_code 47 = .ok (.lload_n 2, 1) := by decide +kernel
theorem d5_48 : decode prog_17_method_6_code 48 = .ok (.lastore, 1) := by decide +kernel
theorem d5_49 : decode prog_17_method_6_code 49 = .ok (.aload_n 0, 1) := by decide +kernel
theorem d5_50 : decode prog_17_method_6_code 50 = .ok (.getfield 26, 3) := by decide +kernel
theorem d5_53 : decode prog_17_method_6_code 53 = .ok (.iload_n 1, 1) := by decide +kernel
theorem d5_54 : decode prog_17_method_6_code 54 = .ok (.dup2, 1) := by decide +kernel
theorem d5_55 : decode prog_17_method_6_code 55 = .ok (.iaload, 1) := by decide +kernel
theorem d5_56 : decode prog_17_method_6_code 56 = .ok (.iconst 1, 1) := by decide +kernel
theorem d5_57 : decode prog_17_method_6_code 57 = .ok (.iadd, 1) := by decide +kernel
theorem d5_58 : decode prog_17_method_6_code 58 = .ok (.iastore, 1) := by decide +kernel
theorem d5_59 : decode prog_17_method_6_code 59 = .ok (.return_, 1) := by decide +kernel
set_option maxRecDepth 65536 in
set_option maxHeartbeats 40000000 in
theorem add0_0_1 (l : Launch) (Z : State) (a0 : Array Value) (hw : ∀ d ∈ tables_1, d.before a0 Z = true) (n0 : Nat) (h : Heap) (O : Old Z n0 h) (s_EMPTY : Addr) (H : En Z s_EMPTY) (c R F S : Addr) (kR kF kS : ClassId) (m f1 s1 : Int32) (r1 : Value) (x : Int64) (hm : ¬ m.toInt64 < (1 : Int64)) (P : RC Z n0 h c R F S kR kF kS (1 : Int32) m (.ref s_EMPTY) r1 (0 : Int32) f1 (0 : Int32) s1) : Con l Z (⟨"com/example/request_throttle/requestthrottle/RingColumn", "add", "(IJ)V"⟩ : MethodName) prog_17_method_6_code 5 none ({ frames := 2, cells := 1, slots := 1, locals := 36 } : Room) #[(.ref c), (.int (0 : Int32)), (.long x)] h n0 (fun r h' => r = none ∧ ∃ g kJ, h.size ≤ g ∧ Keep h h' [R, F, S] ∧ Arv Z h' g kJ .long (1 : Int32) [(.long x)] (.long (0 : Int64)) ∧ RC Z n0 h' c R F S kR kF kS (1 : Int32) m (.ref g) r1 (0 : Int32) f1 (1 : Int32) s1) := by
  refine Con.mk (Ls := #[.val (.ref c), .val (.int (0 : Int32)), .val (.long x), .second, .unset]) (plainFor_of_name pn_0) (fun m => by first | (simp [entryFrame, mkF, argsToLocals, Value.category]; done) | rfl) (fun w C => ?_)
  replace C : Cx w l Z "com/example/request_throttle/requestthrottle/RingColumn" prog_17_method_6_code 5 none "add" ({ frames := 2, cells := 1, slots := 1, locals := 36 } : Room) n0 := C
  obtain ⟨S_EMPTY, E_EMPTY, V_EMPTY⟩ := id H
  obtain ⟨kE, V_EMPTY⟩ := V_EMPTY
  obtain ⟨gc, gR, gF, gS, n_c_R, n_c_F, n_c_S, n_R_F, n_R_S, n_F_S, Ov, E0, Fw, Fm, FR, FF, FS, AR, AF, AS⟩ := P
  refine g_aloadN C (pc' := 1) d5_0 rfl rfl rfl ?_
  refine g_getF C (pc' := 4) (wd hw 19 rfl) Via.refl d5_1 rfl FR rfl ?_
  refine g_iloadN C (pc' := 5) d5_4 rfl rfl ?_
  refine g_aaload C (pc' := 6) (x := (.ref s_EMPTY)) d5_5 rfl AR rfl (by decide) (by decide) rfl rfl ?_
  refine g_astore C (pc' := 8) (Ls' := #[.val (.ref c), .val (.int (0 : Int32)), .val (.long x), .second, .val (.ref s_EMPTY)]) d5_6 rfl rfl rfl rfl ?_
  refine g_aloadN C (pc' := 9) d5_8 rfl rfl rfl ?_
  refine g_getF C (pc' := 12) (wd hw 24 rfl) Via.refl d5_9 rfl FS rfl ?_
  refine g_iloadN C (pc' := 13) d5_12 rfl rfl ?_
  refine g_iaload C (pc' := 14) (x := (0 : Int32)) d5_13 rfl AS (by decide) (by decide) rfl rfl ?_
  refine g_aloadN C (pc' := 15) d5_14 rfl rfl rfl ?_
  refine g_getF C (pc' := 18) (wd hw 13 rfl) Via.refl d5_15 rfl Fw rfl ?_
  refine g_imul C (pc' := 19) d5_18 rfl rfl ?_
  rw [show ((0 : Int32) * (1 : Int32)) = (0 : Int32) from by decide]
  refine g_aload C (pc' := 21) d5_19 rfl rfl rfl ?_
  refine g_alen C (pc' := 22) d5_21 rfl (V_EMPTY.ext O.2) rfl ?_
  refine g_icN C (pc' := 25) d5_22 rfl (by decide) rfl ?_
  refine g_aloadN C (pc' := 26) d5_25 rfl rfl rfl ?_
  refine g_iloadN C (pc' := 27) d5_26 rfl rfl ?_
  refine g_private C (pc' := 30) (k' := 1) (n' := 1) (argsL := [(.int (0 : Int32))]) (rest := []) (wd hw 39 rfl) (wd hw 40 rfl) (wd hw 5 rfl) (wd hw 41 rfl) (wd hw 6 rfl) (wd hw 42 rfl) (by decide) d5_27 pd_5 rfl rfl rfl E0 (grow0_0_1 l Z a0 hw n0 h O s_EMPTY H c R F S kR kF kS m f1 s1 r1 hm ⟨gc, gR, gF, gS, n_c_R, n_c_F, n_c_S, n_R_F, n_R_S, n_F_S, Ov, E0, Fw, Fm, FR, FF, FS, AR, AF, AS⟩) (Nat.le_of_ble_eq_true rfl) (Nat.le_of_ble_eq_true rfl) (Nat.le_of_ble_eq_true rfl) (Nat.le_of_ble_eq_true rfl) rfl rfl rfl (fun v342 h341 q343 => ?_)
  obtain ⟨g, kG, rfl, hg, Kg, Ag, Pg⟩ := q343
  have ne_c_g : c ≠ g := Nat.ne_of_lt (Nat.lt_of_lt_of_le E0.lt hg)
  have ne_R_g : R ≠ g := Nat.ne_of_lt (Nat.lt_of_lt_of_le AR.lt hg)
  have ne_F_g : F ≠ g := Nat.ne_of_lt (Nat.lt_of_lt_of_le AF.lt hg)
  have ne_S_g : S ≠ g := Nat.ne_of_lt (Nat.lt_of_lt_of_le AS.lt hg)
  have ne_s_EMPTY_g : s_EMPTY ≠ g := Nat.ne_of_lt (Nat.lt_of_lt_of_le (V_EMPTY.ext O.2).lt hg)
  have ge_g : n0 ≤ g := Nat.le_trans (O.1 ▸ O.2.1) hg
  have sz_g : h.size ≤ g := Nat.le_trans (Keep.refl h [R, F, S]).1 hg
  have f344 := O.keep Kg (allS gR (allS gF (allS gS all0)))
  have f345 := E0.keep Kg
  have f346 := Fw.keep Kg (ninS n_c_R (ninS n_c_F (ninS n_c_S nin0)))
  have f347 := Fm.keep Kg (ninS n_c_R (ninS n_c_F (ninS n_c_S nin0)))
  have f348 := FR.keep Kg (ninS n_c_R (ninS n_c_F (ninS n_c_S nin0)))
  have f349 := FF.keep Kg (ninS n_c_R (ninS n_c_F (ninS n_c_S nin0)))
  have f350 := FS.keep Kg (ninS n_c_R (ninS n_c_F (ninS n_c_S nin0)))
  have f351 := (Keep.refl h [R, F, S]).trans Kg (allS (Or.inl (List.mem_of_getElem? (i := 0) rfl)) (allS (Or.inl (List.mem_of_getElem? (i := 1) rfl)) (allS (Or.inl (List.mem_of_getElem? (i := 2) rfl)) all0)))
  have f352 := (V_EMPTY.ext O.2).keep Kg (ninS (own_old O V_EMPTY.lt gR) (ninS (own_old O V_EMPTY.lt gF) (ninS (own_old O V_EMPTY.lt gS) nin0)))
  obtain ⟨qgc, qgR, qgF, qgS, qn_c_R, qn_c_F, qn_c_S, qn_R_F, qn_R_S, qn_F_S, qOv, qE0, qFw, qFm, qFR, qFF, qFS, qAR, qAF, qAS⟩ := Pg
  show G w _ h341 1 1 30 #[.val (.ref c), .val (.int (0 : Int32)), .val (.long x), .second, .val (.ref s_EMPTY)] [(.ref g)]
  refine g_astore C (pc' := 32) (Ls' := #[.val (.ref c), .val (.int (0 : Int32)), .val (.long x), .second, .val (.ref g)]) d5_30 rfl rfl rfl rfl ?_
  refine g_aload C (pc' := 34) d5_32 rfl rfl rfl ?_
  refine g_aloadN C (pc' := 35) d5_34 rfl rfl rfl ?_
  refine g_aload C (pc' := 37) d5_35 rfl rfl rfl ?_
  refine g_iloadN C (pc' := 38) d5_37 rfl rfl ?_
  refine g_aloadN C (pc' := 39) d5_38 rfl rfl rfl ?_
  refine g_getF C (pc' := 42) (wd hw 24 rfl) Via.refl d5_39 rfl qFS rfl ?_
  refine g_iloadN C (pc' := 43) d5_42 rfl rfl ?_
  refine g_iaload C (pc' := 44) (x := (0 : Int32)) d5_43 rfl qAS (by decide) (by decide) rfl rfl ?_
  refine g_private C (pc' := 47) (k' := 1) (n' := 1) (argsL := [(.ref g), (.int (0 : Int32)), (.int (0 : Int32))]) (rest := [(.ref g)]) (wd hw 58 rfl) (wd hw 59 rfl) (wd hw 5 rfl) (wd hw 60 rfl) (wd hw 6 rfl) (wd hw 61 rfl) (by decide) d5_44 pd_9 rfl rfl rfl qE0 (start_0_1_0 l Z a0 hw n0 h341 f344 s_EMPTY H c R F S kR kF kS m f1 (0 : Int32) s1 (.ref g) r1 g kG (0 : Int64) Ag ⟨gc, gR, gF, gS, n_c_R, n_c_F, n_c_S, n_R_F, n_R_S, n_F_S, Ov, qE0, qFw, qFm, qFR, qFF, qFS, qAR, qAF, qAS⟩) (Nat.le_of_ble_eq_true rfl) (Nat.le_of_ble_eq_true rfl) (Nat.le_of_ble_eq_true rfl) (Nat.le_of_ble_eq_true rfl) rfl rfl rfl (fun v354 h353 q355 => ?_)
  obtain ⟨rfl, eh353⟩ := q355
  subst h353
  show G w _ h341 1 1 47 #[.val (.ref c), .val (.int (0 : Int32)), .val (.long x), .second, .val (.ref g)] [(.int (0 : Int32)), (.ref g)]
  refine g_lloadN C (pc' := 48) d5_47 rfl rfl ?_
  refine g_lastore C (pc' := 49) d5_48 rfl Ag (by decide) (by decide) ge_g rfl (fun h356 W357 => ?_)
  have f358 := f344.wr W357 ge_g
  have f359 := qE0.wr W357
  have f360 := f351.wr W357 (Or.inr sz_g)
  have f361 := f352.other W357 ne_s_EMPTY_g
  have f362 := qFw.other W357 (Or.inl ne_c_g)
  have f363 := qFm.other W357 (Or.inl ne_c_g)
  have f364 := qFR.other W357 (Or.inl ne_c_g)
  have f365 := qFF.other W357 (Or.inl ne_c_g)
  have f366 := qFS.other W357 (Or.inl ne_c_g)
  have f367 := qAR.other W357 ne_R_g
  have f368 := qAF.other W357 ne_F_g
  have f369 := qAS.other W357 ne_S_g
  have f370 := (arv_put Ag rfl W357 (i := 0) rfl (Nat.le_of_ble_eq_true rfl) : Arv Z h356 g kG .long (1 : Int32) [(.long x)] (.long (0 : Int64)))
  refine g_aloadN C (pc' := 50) d5_49 rfl rfl rfl ?_
  refine g_getF C (pc' := 53) (wd hw 24 rfl) Via.refl d5_50 rfl f366 rfl ?_
  refine g_iloadN C (pc' := 54) d5_53 rfl rfl ?_
  refine g_dup2 C (pc' := 55) d5_54 rfl rfl rfl rfl ?_
  refine g_iaload C (pc' := 56) (x := (0 : Int32)) d5_55 rfl f369 (by decide) (by decide) rfl rfl ?_
  refine g_iconst C (pc' := 57) (v := (1 : Int32)) d5_56 (by decide) rfl ?_
  refine g_iadd C (pc' := 58) d5_57 rfl rfl ?_
  rw [show ((0 : Int32) + (1 : Int32)) = (1 : Int32) from by decide]
  refine g_iastore C (pc' := 59) d5_58 rfl f369 (by decide) (by decide) gS rfl (fun h371 W372 => ?_)
  have f373 := f358.wr W372 gS
  have f374 := f359.wr W372
  have f375 := f360.wr W372 (Or.inl (List.mem_of_getElem? (i := 2) rfl))
  have f376 := f361.other W372 (own_old O V_EMPTY.lt gS)
  have f377 := f362.other W372 (Or.inl n_c_S)
  have f378 := f363.other W372 (Or.inl n_c_S)
  have f379 := f364.other W372 (Or.inl n_c_S)
  have f380 := f365.other W372 (Or.inl n_c_S)
  have f381 := f366.other W372 (Or.inl n_c_S)
  have f382 := f367.other W372 n_R_S
  have f383 := f368.other W372 n_F_S
  have f384 := (arv_put f369 rfl W372 (i := 0) rfl (Nat.le_of_ble_eq_true rfl) : Arv Z h371 S kS .int (2 : Int32) [(.int (1 : Int32)), (.int s1)] (.int (0 : Int32)))
  have f385 := f370.other W372 (Ne.symm ne_S_g)
  exact g_return C d5_59 rfl (Nat.le_of_ble_eq_true rfl) (Nat.le_of_ble_eq_true rfl) (⟨rfl, g, kG, sz_g, f375, f385, ⟨gc, gR, gF, gS, n_c_R, n_c_F, n_c_S, n_R_F, n_R_S, n_F_S, Ov, f374, f377, f378, f379, f380, f381, f382, f383, f384⟩⟩)
set_option maxRecDepth 65536 in
set_option maxHeartbeats 40000000 in
theorem add1_0_1 (l : Launch) (Z : State) (a0 : Array Value) (hw : ∀ d ∈ tables_1, d.before a0 Z = true) (n0 : Nat) (h : Heap) (O : Old Z n0 h) (s_EMPTY : Addr) (H : En Z s_EMPTY) (c R F S : Addr) (kR kF kS : ClassId) (m f1 s1 : Int32) (r1 : Value) (x : Int64) (rg : Addr) (grg : n0 ≤ rg) (kJ : ClassId) (y0 : Int64) (Ar : Arv Z h rg kJ .long (1 : Int32) [(.long y0)] (.long (0 : Int64))) (nR : rg ≠ R) (nF : rg ≠ F) (nS : rg ≠ S) (hm : ¬ m.toInt64 < (2 : Int64)) (P : RC Z n0 h c R F S kR kF kS (1 : Int32) m (.ref rg) r1 (0 : Int32) f1 (1 : Int32) s1) : Con l Z (⟨"com/example/request_throttle/requestthrottle/RingColumn", "add", "(IJ)V"⟩ : MethodName) prog_17_method_6_code 5 none ({ frames := 2, cells := 1, slots := 2, locals := 36 } : Room) #[(.ref c), (.int (0 : Int32)), (.long x)] h n0 (fun r h' => r = none ∧ ∃ g kJ, h.size ≤ g ∧ Keep h h' [R, F, S] ∧ Arv Z h' g kJ .long (2 : Int32) [(.long y0), (.long x)] (.long (0 : Int64)) ∧ RC Z n0 h' c R F S kR kF kS (1 : Int32) m (.ref g) r1 (0 : Int32) f1 (2 : Int32) s1) := by
  refine Con.mk (Ls := #[.val (.ref c), .val (.int (0 : Int32)), .val (.long x), .second, .unset]) (plainFor_of_name pn_0) (fun m => by first | (simp [entryFrame, mkF, argsToLocals, Value.category]; done) | rfl) (fun w C => ?_)
  replace C : Cx w l Z "com/example/request_throttle/requestthrottle/RingColumn" prog_17_method_6_code 5 none "add" ({ frames := 2, cells := 1, slots := 2, locals := 36 } : Room) n0 := C
  obtain ⟨S_EMPTY, E_EMPTY, V_EMPTY⟩ := id H
  obtain ⟨kE, V_EMPTY⟩ := V_EMPTY
  obtain ⟨gc, gR, gF, gS, n_c_R, n_c_F, n_c_S, n_R_F, n_R_S, n_F_S, Ov, E0, Fw, Fm, FR, FF, FS, AR, AF, AS⟩ := P
  refine g_aloadN C (pc' := 1) d5_0 rfl rfl rfl ?_
  refine g_getF C (pc' := 4) (wd hw 19 rfl) Via.refl d5_1 rfl FR rfl ?_
  refine g_iloadN C (pc' := 5) d5_4 rfl rfl ?_
  refine g_aaload C (pc' := 6) (x := (.ref rg)) d5_5 rfl AR rfl (by decide) (by decide) rfl rfl ?_
  refine g_astore C (pc' := 8) (Ls' := #[.val (.ref c), .val (.int (0 : Int32)), .val (.long x), .second, .val (.ref rg)]) d5_6 rfl rfl rfl rfl ?_
  refine g_aloadN C (pc' := 9) d5_8 rfl rfl rfl ?_
  refine g_getF C (pc' := 12) (wd hw 24 rfl) Via.refl d5_9 rfl FS rfl ?_
  refine g_iloadN C (pc' := 13) d5_12 rfl rfl ?_
  refine g_iaload C (pc' := 14) (x := (1 : Int32)) d5_13 rfl AS (by decide) (by decide) rfl rfl ?_
  refine g_aloadN C (pc' := 15) d5_14 rfl rfl rfl ?_
  refine g_getF C (pc' := 18) (wd hw 13 rfl) Via.refl d5_15 rfl Fw rfl ?_
  refine g_imul C (pc' := 19) d5_18 rfl rfl ?_
  rw [show ((1 : Int32) * (1 : Int32)) = (1 : Int32) from by decide]
  refine g_aload C (pc' := 21) d5_19 rfl rfl rfl ?_
  refine g_alen C (pc' := 22) d5_21 rfl Ar rfl ?_
  refine g_icN C (pc' := 25) d5_22 rfl (by decide) rfl ?_
  refine g_aloadN C (pc' := 26) d5_25 rfl rfl rfl ?_
  refine g_iloadN C (pc' := 27) d5_26 rfl rfl ?_
  refine g_private C (pc' := 30) (k' := 1) (n' := 2) (argsL := [(.int (0 : Int32))]) (rest := []) (wd hw 39 rfl) (wd hw 40 rfl) (wd hw 5 rfl) (wd hw 41 rfl) (wd hw 6 rfl) (wd hw 42 rfl) (by decide) d5_27 pd_5 rfl rfl rfl E0 (grow1_0_1 l Z a0 hw n0 h O s_EMPTY H c R F S kR kF kS m f1 s1 r1 rg grg kJ y0 Ar nR nF nS hm ⟨gc, gR, gF, gS, n_c_R, n_c_F, n_c_S, n_R_F, n_R_S, n_F_S, Ov, E0, Fw, Fm, FR, FF, FS, AR, AF, AS⟩) (Nat.le_of_ble_eq_true rfl) (Nat.le_of_ble_eq_true rfl) (Nat.le_of_ble_eq_true rfl) (Nat.le_of_ble_eq_true rfl) rfl rfl rfl (fun v387 h386 q388 => ?_)
  obtain ⟨g, kG, rfl, hg, Kg, Ag, Pg⟩ := q388
  have ne_c_g : c ≠ g := Nat.ne_of_lt (Nat.lt_of_lt_of_le E0.lt hg)
  have ne_R_g : R ≠ g := Nat.ne_of_lt (Nat.lt_of_lt_of_le AR.lt hg)
  have ne_F_g : F ≠ g := Nat.ne_of_lt (Nat.lt_of_lt_of_le AF.lt hg)
  have ne_S_g : S ≠ g := Nat.ne_of_lt (Nat.lt_of_lt_of_le AS.lt hg)
  have ne_rg_g : rg ≠ g := Nat.ne_of_lt (Nat.lt_of_lt_of_le Ar.lt hg)
  have ge_g : n0 ≤ g := Nat.le_trans (O.1 ▸ O.2.1) hg
  have sz_g : h.size ≤ g := Nat.le_trans (Keep.refl h [R, F, S]).1 hg
  have f389 := O.keep Kg (allS gR (allS gF (allS gS all0)))
  have f390 := E0.keep Kg
  have f391 := Fw.keep Kg (ninS n_c_R (ninS n_c_F (ninS n_c_S nin0)))
  have f392 := Fm.keep Kg (ninS n_c_R (ninS n_c_F (ninS n_c_S nin0)))
  have f393 := FR.keep Kg (ninS n_c_R (ninS n_c_F (ninS n_c_S nin0)))
  have f394 := FF.keep Kg (ninS n_c_R (ninS n_c_F (ninS n_c_S nin0)))
  have f395 := FS.keep Kg (ninS n_c_R (ninS n_c_F (ninS n_c_S nin0)))
  have f396 := (Keep.refl h [R, F, S]).trans Kg (allS (Or.inl (List.mem_of_getElem? (i := 0) rfl)) (allS (Or.inl (List.mem_of_getElem? (i := 1) rfl)) (allS (Or.inl (List.mem_of_getElem? (i := 2) rfl)) all0)))
  have f397 := Ar.keep Kg (ninS nR (ninS nF (ninS nS nin0)))
  obtain ⟨qgc, qgR, qgF, qgS, qn_c_R, qn_c_F, qn_c_S, qn_R_F, qn_R_S, qn_F_S, qOv, qE0, qFw, qFm, qFR, qFF, qFS, qAR, qAF, qAS⟩ := Pg
  show G w _ h386 1 2 30 #[.val (.ref c), .val (.int (0 : Int32)), .val (.long x), .second, .val (.ref rg)] [(.ref g)]
  refine g_astore C (pc' := 32) (Ls' := #[.val (.ref c), .val (.int (0 : Int32)), .val (.long x), .second, .val (.ref g)]) d5_30 rfl rfl rfl rfl ?_
  refine g_aload C (pc' := 34) d5_32 rfl rfl rfl ?_
  refine g_aloadN C (pc' := 35) d5_34 rfl rfl rfl ?_
  refine g_aload C (pc' := 37) d5_35 rfl rfl rfl ?_
  refine g_iloadN C (pc' := 38) d5_37 rfl rfl ?_
  refine g_aloadN C (pc' := 39) d5_38 rfl rfl rfl ?_
  refine g_getF C (pc' := 42) (wd hw 24 rfl) Via.refl d5_39 rfl qFS rfl ?_
  refine g_iloadN C (pc' := 43) d5_42 rfl rfl ?_
  refine g_iaload C (pc' := 44) (x := (1 : Int32)) d5_43 rfl qAS (by decide) (by decide) rfl rfl ?_
  refine g_private C (pc' := 47) (k' := 1) (n' := 2) (argsL := [(.ref g), (.int (0 : Int32)), (.int (1 : Int32))]) (rest := [(.ref g)]) (wd hw 58 rfl) (wd hw 59 rfl) (wd hw 5 rfl) (wd hw 60 rfl) (wd hw 6 rfl) (wd hw 61 rfl) (by decide) d5_44 pd_9 rfl rfl rfl qE0 (start_0_1_1b l Z a0 hw n0 h386 f389 s_EMPTY H c R F S kR kF kS m f1 (1 : Int32) s1 (.ref g) r1 g kG y0 (0 : Int64) Ag ⟨gc, gR, gF, gS, n_c_R, n_c_F, n_c_S, n_R_F, n_R_S, n_F_S, Ov, qE0, qFw, qFm, qFR, qFF, qFS, qAR, qAF, qAS⟩) (Nat.le_of_ble_eq_true rfl) (Nat.le_of_ble_eq_true rfl) (Nat.le_of_ble_eq_true rfl) (Nat.le_of_ble_eq_true rfl) rfl rfl rfl (fun v399 h398 q400 => ?_)
  obtain ⟨rfl, eh398⟩ := q400
  subst h398
  show G w _ h386 1 2 47 #[.val (.ref c), .val (.int (0 : Int32)), .val (.long x), .second, .val (.ref g)] [(.int (1 : Int32)), (.ref g)]
  refine g_lloadN C (pc' := 48) d5_47 rfl rfl ?_
  refine g_lastore C (pc' := 49) d5_48 rfl Ag (by decide) (by decide) ge_g rfl (fun h401 W402 => ?_)
  have f403 := f389.wr W402 ge_g
  have f404 := qE0.wr W402
  have f405 := f396.wr W402 (Or.inr sz_g)
  have f406 := f397.other W402 ne_rg_g
  have f407 := qFw.other W402 (Or.inl ne_c_g)
  have f408 := qFm.other W402 (Or.inl ne_c_g)
  have f409 := qFR.other W402 (Or.inl ne_c_g)
  have f410 := qFF.other W402 (Or.inl ne_c_g)
  have f411 := qFS.other W402 (Or.inl ne_c_g)
  have f412 := qAR.other W402 ne_R_g
  have f413 := qAF.other W402 ne_F_g
  have f414 := qAS.other W402 ne_S_g
  have f415 := (arv_put Ag rfl W402 (i := 1) rfl (Nat.le_of_ble_eq_true rfl) : Arv Z h401 g kG .long (2 : Int32) [(.long y0), (.long x)] (.long (0 : Int64)))
  refine g_aloadN C (pc' := 50) d5_49 rfl rfl rfl ?_
  refine g_getF C (pc' := 53) (wd hw 24 rfl) Via.refl d5_50 rfl f411 rfl ?_
  refine g_iloadN C (pc' := 54) d5_53 rfl rfl ?_
  refine g_dup2 C (pc' := 55) d5_54 rfl rfl rfl rfl ?_
  refine g_iaload C (pc' := 56) (x := (1 : Int32)) d5_55 rfl f414 (by decide) (by decide) rfl rfl ?_
  refine g_iconst C (pc' := 57) (v := (1 : Int32)) d5_56 (by decide) rfl ?_
  refine g_iadd C (pc' := 58) d5_57 rfl rfl ?_
  rw [show ((1 : Int32) + (1 : Int32)) = (2 : Int32) from by decide]
  refine g_iastore C (pc' := 59) d5_58 rfl f414 (by decide) (by decide) gS rfl (fun h416 W417 => ?_)
  have f418 := f403.wr W417 gS
  have f419 := f404.wr W417
  have f420 := f405.wr W417 (Or.inl (List.mem_of_getElem? (i := 2) rfl))
  have f421 := f406.other W417 nS
  have f422 := f407.other W417 (Or.inl n_c_S)
  have f423 := f408.other W417 (Or.inl n_c_S)
  have f424 := f409.other W417 (Or.inl n_c_S)
  have f425 := f410.other W417 (Or.inl n_c_S)
  have f426 := f411.other W417 (Or.inl n_c_S)
  have f427 := f412.other W417 n_R_S
  have f428 := f413.other W417 n_F_S
  have f429 := (arv_put f414 rfl W417 (i := 0) rfl (Nat.le_of_ble_eq_true rfl) : Arv Z h416 S kS .int (2 : Int32) [(.int (2 : Int32)), (.int s1)] (.int (0 : Int32)))
  have f430 := f415.other W417 (Ne.symm ne_S_g)
  exact g_return C d5_59 rfl (Nat.le_of_ble_eq_true rfl) (Nat.le_of_ble_eq_true rfl) (⟨rfl, g, kG, sz_g, f420, f430, ⟨gc, gR, gF, gS, n_c_R, n_c_F, n_c_S, n_R_F, n_R_S, n_F_S, Ov, f419, f422, f423, f424, f425, f426, f427, f428, f429⟩⟩)
theorem d12_0 : decode prog_17_method_4_code 0 = .ok (.aload_n 0, 1) := by decide +kernel
theorem d12_1 : decode prog_17_method_4_code 1 = .ok (.getfield 18, 3) := by decide +kernel
theorem d12_4 : decode prog_17_method_4_code 4 = .ok (.iload_n 1, 1) := by decide +kernel
theorem d12_5 : decode prog_17_method_4_code 5 = .ok (.aaload, 1) := by decide +kernel
theorem d12_6 : decode prog_17_method_4_code 6 = .ok (.astore 4, 2) := by decide +kernel
theorem d12_8 : decode prog_17_method_4_code 8 = .ok (.aload 4, 2) := by decide +kernel
theorem d12_10 : decode prog_17_method_4_code 10 = .ok (.aload_n 0, 1) := by decide +kernel
theorem d12_11 : decode prog_17_method_4_code 11 = .ok (.aload 4, 2) := by decide +kernel
theorem d12_13 : decode prog_17_method_4_code 13 = .ok (.iload_n 1, 1) := by decide +kernel
theorem d12_14 : decode prog_17_method_4_code 14 = .ok (.iload_n 2, 1) := by decide +kernel
theorem d12_15 : decode prog_17_method_4_code 15 = .ok (.invokevirtual 32, 3) := by decide +kernel
theorem d12_18 : decode prog_17_method_4_code 18 = .ok (.iload_n 3, 1) := by decide +kernel
theorem d12_19 : decode prog_17_method_4_code 19 = .ok (.iadd, 1) := by decide +kernel
theorem d12_20 : decode prog_17_method_4_code 20 = .ok (.laload, 1) := by decide +kernel
theorem d12_21 : decode prog_17_method_4_code 21 = .ok (.lreturn, 1) := by decide +kernel
set_option maxRecDepth 65536 in
set_option maxHeartbeats 40000000 in
theorem get_0_1 (l : Launch) (Z : State) (a0 : Array Value) (hw : ∀ d ∈ tables_1, d.before a0 Z = true) (n0 : Nat) (h : Heap) (O : Old Z n0 h) (s_EMPTY : Addr) (H : En Z s_EMPTY) (c R F S : Addr) (kR kF kS : ClassId) (m f1 s0 s1 : Int32) (r1 : Value) (rg : Addr) (kJ : ClassId) (y0 : Int64) (Ar : Arv Z h rg kJ .long (1 : Int32) [(.long y0)] (.long (0 : Int64))) (P : RC Z n0 h c R F S kR kF kS (1 : Int32) m (.ref rg) r1 (0 : Int32) f1 s0 s1) : Con l Z (⟨"com/example/request_throttle/requestthrottle/RingColumn", "get", "(III)J"⟩ : MethodName) prog_17_method_4_code 5 (some .long) ({ frames := 1, cells := 0, slots := 0, locals := 17 } : Room) #[(.ref c), (.int (0 : Int32)), (.int (0 : Int32)), (.int (0 : Int32))] h n0 (fun r h' => r = some (.long y0) ∧ h' = h) := by
  refine Con.mk (Ls := #[.val (.ref c), .val (.int (0 : Int32)), .val (.int (0 : Int32)), .val (.int (0 : Int32)), .unset]) (plainFor_of_name pn_0) (fun m => by first | (simp [entryFrame, mkF, argsToLocals, Value.category]; done) | rfl) (fun w C => ?_)
  replace C : Cx w l Z "com/example/request_throttle/requestthrottle/RingColumn" prog_17_method_4_code 5 (some .long) "get" ({ frames := 1, cells := 0, slots := 0, locals := 17 } : Room) n0 := C
  obtain ⟨S_EMPTY, E_EMPTY, V_EMPTY⟩ := id H
  obtain ⟨kE, V_EMPTY⟩ := V_EMPTY
  obtain ⟨gc, gR, gF, gS, n_c_R, n_c_F, n_c_S, n_R_F, n_R_S, n_F_S, Ov, E0, Fw, Fm, FR, FF, FS, AR, AF, AS⟩ := P
  refine g_aloadN C (pc' := 1) d12_0 rfl rfl rfl ?_
  refine g_getF C (pc' := 4) (wd hw 19 rfl) Via.refl d12_1 rfl FR rfl ?_
  refine g_iloadN C (pc' := 5) d12_4 rfl rfl ?_
  refine g_aaload C (pc' := 6) (x := (.ref rg)) d12_5 rfl AR rfl (by decide) (by decide) rfl rfl ?_
  refine g_astore C (pc' := 8) (Ls' := #[.val (.ref c), .val (.int (0 : Int32)), .val (.int (0 : Int32)), .val (.int (0 : Int32)), .val (.ref rg)]) d12_6 rfl rfl rfl rfl ?_
  refine g_aload C (pc' := 10) d12_8 rfl rfl rfl ?_
  refine g_aloadN C (pc' := 11) d12_10 rfl rfl rfl ?_
  refine g_aload C (pc' := 13) d12_11 rfl rfl rfl ?_
  refine g_iloadN C (pc' := 14) d12_13 rfl rfl ?_
  refine g_iloadN C (pc' := 15) d12_14 rfl rfl ?_
  refine g_private C (pc' := 18) (k' := 0) (n' := 0) (argsL := [(.ref rg), (.int (0 : Int32)), (.int (0 : Int32))]) (rest := [(.ref rg)]) (wd hw 58 rfl) (wd hw 59 rfl) (wd hw 5 rfl) (wd hw 60 rfl) (wd hw 6 rfl) (wd hw 61 rfl) (by decide) d12_15 pd_9 rfl rfl rfl E0 (start_0_1_0 l Z a0 hw n0 h O s_EMPTY H c R F S kR kF kS m f1 s0 s1 (.ref rg) r1 rg kJ y0 Ar ⟨gc, gR, gF, gS, n_c_R, n_c_F, n_c_S, n_R_F, n_R_S, n_F_S, Ov, E0, Fw, Fm, FR, FF, FS, AR, AF, AS⟩) (Nat.le_of_ble_eq_true rfl) (Nat.le_of_ble_eq_true rfl) (Nat.le_of_ble_eq_true rfl) (Nat.le_of_ble_eq_true rfl) rfl rfl rfl (fun v432 h431 q433 => ?_)
  obtain ⟨rfl, eh431⟩ := q433
  subst h431
  show G w _ h 0 0 18 #[.val (.ref c), .val (.int (0 : Int32)), .val (.int (0 : Int32)), .val (.int (0 : Int32)), .val (.ref rg)] [(.int (0 : Int32)), (.ref rg)]
  refine g_iloadN C (pc' := 19) d12_18 rfl rfl ?_
  refine g_iadd C (pc' := 20) d12_19 rfl rfl ?_
  rw [show ((0 : Int32) + (0 : Int32)) = (0 : Int32) from by decide]
  refine g_laload C (pc' := 21) (x := y0) d12_20 rfl Ar (by decide) (by decide) rfl rfl ?_
  exact g_lreturn C d12_21 rfl (Nat.le_of_ble_eq_true rfl) (Nat.le_of_ble_eq_true rfl) (⟨rfl, rfl⟩)
theorem d13_0 : decode prog_17_method_7_code 0 = .ok (.aload_n 0, 1) := by decide +kernel
theorem d13_1 : decode prog_17_method_7_code 1 = .ok (.getfield 22, 3) := by decide +kernel
theorem d13_4 : decode prog_17_method_7_code 4 = .ok (.iload_n 1, 1) := by decide +kernel
theorem d13_5 : decode prog_17_method_7_code 5 = .ok (.iaload, 1) := by decide +kernel
theorem d13_6 : decode prog_17_method_7_code 6 = .ok (.aload_n 0, 1) := by decide +kernel
theorem d13_7 : decode prog_17_method_7_code 7 = .ok (.getfield 7, 3) := by decide +kernel
theorem d13_10 : decode prog_17_method_7_code 10 = .ok (.iadd, 1) := by decide +kernel
theorem d13_11 : decode prog_17_method_7_code 11 = .ok (.istore_n 2, 1) := by decide +kernel
theorem d13_12 : decode prog_17_method_7_code 12 = .ok (.aload_n 0, 1) := by decide +kernel
theorem d13_13 : decode prog_17_method_7_code 13 = .ok (.getfield 22, 3) := by decide +kernel
theorem d13_16 : decode prog_17_method_7_code 16 = .ok (.iload_n 1, 1) := by decide +kernel
theorem d13_17 : decode prog_17_method_7_code 17 = .ok (.iload_n 2, 1) := by decide +kernel
theorem d13_18 : decode prog_17_method_7_code 18 = .ok (.aload_n 0, 1) := by decide +kernel
theorem d13_19 : decode prog_17_method_7_code 19 = .ok (.getfield 18, 3) := by decide +kernel
theorem d13_22 : decode prog_17_method_7_code 22 = .ok (.iload_n 1, 1) := by decide +kernel
theorem d13_23 : decode prog_17_method_7_code 23 = .ok (.aaload, 1) := by decide +kernel
theorem d13_24 : decode prog_17_method_7_code 24 = .ok (.arraylength, 1) := by decide +kernel
theorem d13_25 : decode prog_17_method_7_code 25 = .ok (.if_icmp .ne 7, 3) := by decide +kernel
theorem d13_28 : decode prog_17_method_7_code 28 = .ok (.iconst 0, 1) := by decide +kernel
theorem d13_29 : decode prog_17_method_7_code 29 = .ok (.goto 4, 3) := by decide +kernel
theorem d13_33 : decode prog_17_method_7_code 33 = .ok (.iastore, 1) := by decide +kernel
theorem d13_34 : decode prog_17_method_7_code 34 = .ok (.aload_n 0, 1) := by decide +kernel
theorem d13_35 : decode prog_17_method_7_code 35 = .ok (.getfield 26, 3) := by decide +kernel
theorem d13_38 : decode prog_17_method_7_code 38 = .ok (.iload_n 1, 1) := by decide +kernel
theorem d13_39 : decode prog_17_method_7_code 39 = .ok (.dup2, 1) := by decide +kernel
theorem d13_40 : decode prog_17_method_7_code 40 = .ok (.iaload, 1) := by decide +kernel
theorem d13_41 : decode prog_17_method_7_code 41 = .ok (.iconst 1, 1) := by decide +kernel
theorem d13_42 : decode prog_17_method_7_code 42 = .ok (.isub, 1) := by decide +kernel
theorem d13_43 : decode prog_17_method_7_code 43 = .ok (.iastore, 1) := by decide +kernel
theorem d13_44 : decode prog_17_method_7_code 44 = .ok (.return_, 1) := by decide +kernel
set_option maxRecDepth 65536 in
set_option maxHeartbeats 40000000 in
theorem rem1_0_1 (l : Launch) (Z : State) (a0 : Array Value) (hw : ∀ d ∈ tables_1, d.before a0 Z = true) (n0 : Nat) (h : Heap) (O : Old Z n0 h) (s_EMPTY : Addr) (H : En Z s_EMPTY) (c R F S : Addr) (kR kF kS : ClassId) (m f1 s1 : Int32) (r1 : Value) (rg : Addr) (kJ : ClassId) (y0 : Int64) (Ar : Arv Z h rg kJ .long (1 : Int32) [(.long y0)] (.long (0 : Int64))) (nR : rg ≠ R) (nF : rg ≠ F) (nS : rg ≠ S) (P : RC Z n0 h c R F S kR kF kS (1 : Int32) m (.ref rg) r1 (0 : Int32) f1 (1 : Int32) s1) : Con l Z (⟨"com/example/request_throttle/requestthrottle/RingColumn", "removeFirst", "(I)V"⟩ : MethodName) prog_17_method_7_code 3 none ({ frames := 0, cells := 0, slots := 0, locals := 0 } : Room) #[(.ref c), (.int (0 : Int32))] h n0 (fun r h' => r = none ∧ Keep h h' [R, F, S] ∧ RC Z n0 h' c R F S kR kF kS (1 : Int32) m (.ref rg) r1 (0 : Int32) f1 (0 : Int32) s1) := by
  refine Con.mk (Ls := #[.val (.ref c), .val (.int (0 : Int32)), .unset]) (plainFor_of_name pn_0) (fun m => by first | (simp [entryFrame, mkF, argsToLocals, Value.category]; done) | rfl) (fun w C => ?_)
  replace C : Cx w l Z "com/example/request_throttle/requestthrottle/RingColumn" prog_17_method_7_code 3 none "removeFirst" ({ frames := 0, cells := 0, slots := 0, locals := 0 } : Room) n0 := C
  obtain ⟨S_EMPTY, E_EMPTY, V_EMPTY⟩ := id H
  obtain ⟨kE, V_EMPTY⟩ := V_EMPTY
  obtain ⟨gc, gR, gF, gS, n_c_R, n_c_F, n_c_S, n_R_F, n_R_S, n_F_S, Ov, E0, Fw, Fm, FR, FF, FS, AR, AF, AS⟩ := P
  refine g_aloadN C (pc' := 1) d13_0 rfl rfl rfl ?_
  refine g_getF C (pc' := 4) (wd hw 22 rfl) Via.refl d13_1 rfl FF rfl ?_
  refine g_iloadN C (pc' := 5) d13_4 rfl rfl ?_
  refine g_iaload C (pc' := 6) (x := (0 : Int32)) d13_5 rfl AF (by decide) (by decide) rfl rfl ?_
  refine g_aloadN C (pc' := 7) d13_6 rfl rfl rfl ?_
  refine g_getF C (pc' := 10) (wd hw 13 rfl) Via.refl d13_7 rfl Fw rfl ?_
  refine g_iadd C (pc' := 11) d13_10 rfl rfl ?_
  rw [show ((0 : Int32) + (1 : Int32)) = (1 : Int32) from by decide]
  refine g_istoreN C (pc' := 12) (Ls' := #[.val (.ref c), .val (.int (0 : Int32)), .val (.int (1 : Int32))]) d13_11 rfl rfl rfl ?_
  refine g_aloadN C (pc' := 13) d13_12 rfl rfl rfl ?_
  refine g_getF C (pc' := 16) (wd hw 22 rfl) Via.refl d13_13 rfl FF rfl ?_
  refine g_iloadN C (pc' := 17) d13_16 rfl rfl ?_
  refine g_iloadN C (pc' := 18) d13_17 rfl rfl ?_
  refine g_aloadN C (pc' := 19) d13_18 rfl rfl rfl ?_
  refine g_getF C (pc' := 22) (wd hw 19 rfl) Via.refl d13_19 rfl FR rfl ?_
  refine g_iloadN C (pc' := 23) d13_22 rfl rfl ?_
  refine g_aaload C (pc' := 24) (x := (.ref rg)) d13_23 rfl AR rfl (by decide) (by decide) rfl rfl ?_
  refine g_alen C (pc' := 25) d13_24 rfl Ar rfl ?_
  refine g_icN C (pc' := 28) d13_25 rfl (by decide) rfl ?_
  refine g_iconst C (pc' := 29) (v := (0 : Int32)) d13_28 (by decide) rfl ?_
  refine g_goto C (pc' := 33) d13_29 (by decide) rfl ?_
  refine g_iastore C (pc' := 34) d13_33 rfl AF (by decide) (by decide) gF rfl (fun h434 W435 => ?_)
  have f436 := O.wr W435 gF
  have f437 := E0.wr W435
  have f438 := Fw.other W435 (Or.inl n_c_F)
  have f439 := Fm.other W435 (Or.inl n_c_F)
  have f440 := FR.other W435 (Or.inl n_c_F)
  have f441 := FF.other W435 (Or.inl n_c_F)
  have f442 := FS.other W435 (Or.inl n_c_F)
  have f443 := AR.other W435 n_R_F
  have f444 := (arv_put AF rfl W435 (i := 0) rfl (Nat.le_of_ble_eq_true rfl) : Arv Z h434 F kF .int (2 : Int32) [(.int (0 : Int32)), (.int f1)] (.int (0 : Int32)))
  have f445 := AS.other W435 (Ne.symm n_F_S)
  have f446 := (Keep.refl h [R, F, S]).wr W435 (Or.inl (List.mem_of_getElem? (i := 1) rfl))
  have f447 := Ar.other W435 nF
  refine g_aloadN C (pc' := 35) d13_34 rfl rfl rfl ?_
  refine g_getF C (pc' := 38) (wd hw 24 rfl) Via.refl d13_35 rfl f442 rfl ?_
  refine g_iloadN C (pc' := 39) d13_38 rfl rfl ?_
  refine g_dup2 C (pc' := 40) d13_39 rfl rfl rfl rfl ?_
  refine g_iaload C (pc' := 41) (x := (1 : Int32)) d13_40 rfl f445 (by decide) (by decide) rfl rfl ?_
  refine g_iconst C (pc' := 42) (v := (1 : Int32)) d13_41 (by decide) rfl ?_
  refine g_isub C (pc' := 43) d13_42 rfl rfl ?_
  rw [show ((1 : Int32) - (1 : Int32)) = (0 : Int32) from by decide]
  refine g_iastore C (pc' := 44) d13_43 rfl f445 (by decide) (by decide) gS rfl (fun h448 W449 => ?_)
  have f450 := f436.wr W449 gS
  have f451 := f437.wr W449
  have f452 := f438.other W449 (Or.inl n_c_S)
  have f453 := f439.other W449 (Or.inl n_c_S)
  have f454 := f440.other W449 (Or.inl n_c_S)
  have f455 := f441.other W449 (Or.inl n_c_S)
  have f456 := f442.other W449 (Or.inl n_c_S)
  have f457 := f443.other W449 n_R_S
  have f458 := f444.other W449 n_F_S
  have f459 := (arv_put f445 rfl W449 (i := 0) rfl (Nat.le_of_ble_eq_true rfl) : Arv Z h448 S kS .int (2 : Int32) [(.int (0 : Int32)), (.int s1)] (.int (0 : Int32)))
  have f460 := f446.wr W449 (Or.inl (List.mem_of_getElem? (i := 2) rfl))
  have f461 := f447.other W449 nS
  exact g_return C d13_44 rfl (Nat.le_of_ble_eq_true rfl) (Nat.le_of_ble_eq_true rfl) (⟨rfl, f460, ⟨gc, gR, gF, gS, n_c_R, n_c_F, n_c_S, n_R_F, n_R_S, n_F_S, Ov, f451, f452, f453, f454, f455, f456, f457, f458, f459⟩⟩)
theorem d13_32 : decode prog_17_method_7_code 32 = .ok (.iload_n 2, 1) := by decide +kernel
set_option maxRecDepth 65536 in
set_option maxHeartbeats 40000000 in
theorem rem2_0_1 (l : Launch) (Z : State) (a0 : Array Value) (hw : ∀ d ∈ tables_1, d.before a0 Z = true) (n0 : Nat) (h : Heap) (O : Old Z n0 h) (s_EMPTY : Addr) (H : En Z s_EMPTY) (c R F S : Addr) (kR kF kS : ClassId) (m f1 s1 : Int32) (r1 : Value) (rg : Addr) (kJ : ClassId) (y0 y1 : Int64) (Ar : Arv Z h rg kJ .long (2 : Int32) [(.long y0), (.long y1)] (.long (0 : Int64))) (nR : rg ≠ R) (nF : rg ≠ F) (nS : rg ≠ S) (P : RC Z n0 h c R F S kR kF kS (1 : Int32) m (.ref rg) r1 (0 : Int32) f1 (2 : Int32) s1) : Con l Z (⟨"com/example/request_throttle/requestthrottle/RingColumn", "removeFirst", "(I)V"⟩ : MethodName) prog_17_method_7_code 3 none ({ frames := 0, cells := 0, slots := 0, locals := 0 } : Room) #[(.ref c), (.int (0 : Int32))] h n0 (fun r h' => r = none ∧ Keep h h' [R, F, S] ∧ RC Z n0 h' c R F S kR kF kS (1 : Int32) m (.ref rg) r1 (1 : Int32) f1 (1 : Int32) s1) := by
  refine Con.mk (Ls := #[.val (.ref c), .val (.int (0 : Int32)), .unset]) (plainFor_of_name pn_0) (fun m => by first | (simp [entryFrame, mkF, argsToLocals, Value.category]; done) | rfl) (fun w C => ?_)
  replace C : Cx w l Z "com/example/request_throttle/requestthrottle/RingColumn" prog_17_method_7_code 3 none "removeFirst" ({ frames := 0, cells := 0, slots := 0, locals := 0 } : Room) n0 := C
  obtain ⟨S_EMPTY, E_EMPTY, V_EMPTY⟩ := id H
  obtain ⟨kE, V_EMPTY⟩ := V_EMPTY
  obtain ⟨gc, gR, gF, gS, n_c_R, n_c_F, n_c_S, n_R_F, n_R_S, n_F_S, Ov, E0, Fw, Fm, FR, FF, FS, AR, AF, AS⟩ := P
  refine g_aloadN C (pc' := 1) d13_0 rfl rfl rfl ?_
  refine g_getF C (pc' := 4) (wd hw 22 rfl) Via.refl d13_1 rfl FF rfl ?_
  refine g_iloadN C (pc' := 5) d13_4 rfl rfl ?_
  refine g_iaload C (pc' := 6) (x := (0 : Int32)) d13_5 rfl AF (by decide) (by decide) rfl rfl ?_
  refine g_aloadN C (pc' := 7) d13_6 rfl rfl rfl ?_
  refine g_getF C (pc' := 10) (wd hw 13 rfl) Via.refl d13_7 rfl Fw rfl ?_
  refine g_iadd C (pc' := 11) d13_10 rfl rfl ?_
  rw [show ((0 : Int32) + (1 : Int32)) = (1 : Int32) from by decide]
  refine g_istoreN C (pc' := 12) (Ls' := #[.val (.ref c), .val (.int (0 : Int32)), .val (.int (1 : Int32))]) d13_11 rfl rfl rfl ?_
  refine g_aloadN C (pc' := 13) d13_12 rfl rfl rfl ?_
  refine g_getF C (pc' := 16) (wd hw 22 rfl) Via.refl d13_13 rfl FF rfl ?_
  refine g_iloadN C (pc' := 17) d13_16 rfl rfl ?_
  refine g_iloadN C (pc' := 18) d13_17 rfl rfl ?_
  refine g_aloadN C (pc' := 19) d13_18 rfl rfl rfl ?_
  refine g_getF C (pc' := 22) (wd hw 19 rfl) Via.refl d13_19 rfl FR rfl ?_
  refine g_iloadN C (pc' := 23) d13_22 rfl rfl ?_
  refine g_aaload C (pc' := 24) (x := (.ref rg)) d13_23 rfl AR rfl (by decide) (by decide) rfl rfl ?_
  refine g_alen C (pc' := 25) d13_24 rfl Ar rfl ?_
  refine g_icY C (pc' := 32) d13_25 rfl (by decide) (by decide) rfl ?_
  refine g_iloadN C (pc' := 33) d13_32 rfl rfl ?_
  refine g_iastore C (pc' := 34) d13_33 rfl AF (by decide) (by decide) gF rfl (fun h462 W463 => ?_)
  have f464 := O.wr W463 gF
  have f465 := E0.wr W463
  have f466 := Fw.other W463 (Or.inl n_c_F)
  have f467 := Fm.other W463 (Or.inl n_c_F)
  have f468 := FR.other W463 (Or.inl n_c_F)
  have f469 := FF.other W463 (Or.inl n_c_F)
  have f470 := FS.other W463 (Or.inl n_c_F)
  have f471 := AR.other W463 n_R_F
  have f472 := (arv_put AF rfl W463 (i := 0) rfl (Nat.le_of_ble_eq_true rfl) : Arv Z h462 F kF .int (2 : Int32) [(.int (1 : Int32)), (.int f1)] (.int (0 : Int32)))
  have f473 := AS.other W463 (Ne.symm n_F_S)
  have f474 := (Keep.refl h [R, F, S]).wr W463 (Or.inl (List.mem_of_getElem? (i := 1) rfl))
  have f475 := Ar.other W463 nF
  refine g_aloadN C (pc' := 35) d13_34 rfl rfl rfl ?_
  refine g_getF C (pc' := 38) (wd hw 24 rfl) Via.refl d13_35 rfl f470 rfl ?_
  refine g_iloadN C (pc' := 39) d13_38 rfl rfl ?_
  refine g_dup2 C (pc' := 40) d13_39 rfl rfl rfl rfl ?_
  refine g_iaload C (pc' := 41) (x := (2 : Int32)) d13_40 rfl f473 (by decide) (by decide) rfl rfl ?_
  refine g_iconst C (pc' := 42) (v := (1 : Int32)) d13_41 (by decide) rfl ?_
  refine g_isub C (pc' := 43) d13_42 rfl rfl ?_
  rw [show ((2 : Int32) - (1 : Int32)) = (1 : Int32) from by decide]
  refine g_iastore C (pc' := 44) d13_43 rfl f473 (by decide) (by decide) gS rfl (fun h476 W477 => ?_)
  have f478 := f464.wr W477 gS
  have f479 := f465.wr W477
  have f480 := f466.other W477 (Or.inl n_c_S)
  have f481 := f467.other W477 (Or.inl n_c_S)
  have f482 := f468.other W477 (Or.inl n_c_S)
  have f483 := f469.other W477 (Or.inl n_c_S)
  have f484 := f470.other W477 (Or.inl n_c_S)
  have f485 := f471.other W477 n_R_S
  have f486 := f472.other W477 n_F_S
  have f487 := (arv_put f473 rfl W477 (i := 0) rfl (Nat.le_of_ble_eq_true rfl) : Arv Z h476 S kS .int (2 : Int32) [(.int (1 : Int32)), (.int s1)] (.int (0 : Int32)))
  have f488 := f474.wr W477 (Or.inl (List.mem_of_getElem? (i := 2) rfl))
  have f489 := f475.other W477 nS
  exact g_return C d13_44 rfl (Nat.le_of_ble_eq_true rfl) (Nat.le_of_ble_eq_true rfl) (⟨rfl, f488, ⟨gc, gR, gF, gS, n_c_R, n_c_F, n_c_S, n_R_F, n_R_S, n_F_S, Ov, f479, f480, f481, f482, f483, f484, f485, f486, f487⟩⟩)
set_option maxRecDepth 65536 in
set_option maxHeartbeats 40000000 in
theorem start_0_2_0 (l : Launch) (Z : State) (a0 : Array Value) (hw : ∀ d ∈ tables_1, d.before a0 Z = true) (n0 : Nat) (h : Heap) (O : Old Z n0 h) (s_EMPTY : Addr) (H : En Z s_EMPTY) (c R F S : Addr) (kR kF kS : ClassId) (m f1 s0 s1 : Int32) (r0 r1 : Value) (rg : Addr) (kJ : ClassId) (y0 y1 : Int64) (Ar : Arv Z h rg kJ .long (2 : Int32) [(.long y0), (.long y1)] (.long (0 : Int64))) (P : RC Z n0 h c R F S kR kF kS (2 : Int32) m r0 r1 (0 : Int32) f1 s0 s1) : Con l Z (⟨"com/example/request_throttle/requestthrottle/RingColumn", "start", "([JII)I"⟩ : MethodName) prog_17_method_9_code 5 (some .int) ({ frames := 0, cells := 0, slots := 0, locals := 0 } : Room) #[(.ref c), (.ref rg), (.int (0 : Int32)), (.int (0 : Int32))] h n0 (fun r h' => r = some (.int (0 : Int32)) ∧ h' = h) := by
  refine Con.mk (Ls := #[.val (.ref c), .val (.ref rg), .val (.int (0 : Int32)), .val (.int (0 : Int32)), .unset]) (plainFor_of_name pn_0) (fun m => by first | (simp [entryFrame, mkF, argsToLocals, Value.category]; done) | rfl) (fun w C => ?_)
  replace C : Cx w l Z "com/example/request_throttle/requestthrottle/RingColumn" prog_17_method_9_code 5 (some .int) "start" ({ frames := 0, cells := 0, slots := 0, locals := 0 } : Room) n0 := C
  obtain ⟨S_EMPTY, E_EMPTY, V_EMPTY⟩ := id H
  obtain ⟨kE, V_EMPTY⟩ := V_EMPTY
  obtain ⟨gc, gR, gF, gS, n_c_R, n_c_F, n_c_S, n_R_F, n_R_S, n_F_S, Ov, E0, Fw, Fm, FR, FF, FS, AR, AF, AS⟩ := P
  refine g_aloadN C (pc' := 1) d10_0 rfl rfl rfl ?_
  refine g_getF C (pc' := 4) (wd hw 22 rfl) Via.refl d10_1 rfl FF rfl ?_
  refine g_iloadN C (pc' := 5) d10_4 rfl rfl ?_
  refine g_iaload C (pc' := 6) (x := (0 : Int32)) d10_5 rfl AF (by decide) (by decide) rfl rfl ?_
  refine g_iloadN C (pc' := 7) d10_6 rfl rfl ?_
  refine g_aloadN C (pc' := 8) d10_7 rfl rfl rfl ?_
  refine g_getF C (pc' := 11) (wd hw 13 rfl) Via.refl d10_8 rfl Fw rfl ?_
  refine g_imul C (pc' := 12) d10_11 rfl rfl ?_
  rw [show ((0 : Int32) * (2 : Int32)) = (0 : Int32) from by decide]
  refine g_iadd C (pc' := 13) d10_12 rfl rfl ?_
  rw [show ((0 : Int32) + (0 : Int32)) = (0 : Int32) from by decide]
  refine g_istore C (pc' := 15) (Ls' := #[.val (.ref c), .val (.ref rg), .val (.int (0 : Int32)), .val (.int (0 : Int32)), .val (.int (0 : Int32))]) d10_13 rfl rfl rfl ?_
  refine g_iload C (pc' := 17) d10_15 rfl rfl ?_
  refine g_aloadN C (pc' := 18) d10_17 rfl rfl rfl ?_
  refine g_alen C (pc' := 19) d10_18 rfl Ar rfl ?_
  refine g_icN C (pc' := 22) d10_19 rfl (by decide) rfl ?_
  refine g_iload C (pc' := 24) d10_22 rfl rfl ?_
  refine g_goto C (pc' := 32) d10_24 (by decide) rfl ?_
  exact g_ireturn C d10_32 rfl (Nat.le_of_ble_eq_true rfl) (Nat.le_of_ble_eq_true rfl) (⟨rfl, rfl⟩)
set_option maxRecDepth 65536 in
set_option maxHeartbeats 40000000 in
theorem start_0_2_1b (l : Launch) (Z : State) (a0 : Array Value) (hw : ∀ d ∈ tables_1, d.before a0 Z = true) (n0 : Nat) (h : Heap) (O : Old Z n0 h) (s_EMPTY : Addr) (H : En Z s_EMPTY) (c R F S : Addr) (kR kF kS : ClassId) (m f1 s0 s1 : Int32) (r0 r1 : Value) (rg : Addr) (kJ : ClassId) (y0 y1 y2 y3 : Int64) (Ar : Arv Z h rg kJ .long (4 : Int32) [(.long y0), (.long y1), (.long y2), (.long y3)] (.long (0 : Int64))) (P : RC Z n0 h c R F S kR kF kS (2 : Int32) m r0 r1 (0 : Int32) f1 s0 s1) : Con l Z (⟨"com/example/request_throttle/requestthrottle/RingColumn", "start", "([JII)I"⟩ : MethodName) prog_17_method_9_code 5 (some .int) ({ frames := 0, cells := 0, slots := 0, locals := 0 } : Room) #[(.ref c), (.ref rg), (.int (0 : Int32)), (.int (1 : Int32))] h n0 (fun r h' => r = some (.int (2 : Int32)) ∧ h' = h) := by
  refine Con.mk (Ls := #[.val (.ref c), .val (.ref rg), .val (.int (0 : Int32)), .val (.int (1 : Int32)), .unset]) (plainFor_of_name pn_0) (fun m => by first | (simp [entryFrame, mkF, argsToLocals, Value.category]; done) | rfl) (fun w C => ?_)
  replace C : Cx w l Z "com/example/request_throttle/requestthrottle/RingColumn" prog_17_method_9_code 5 (some .int) "start" ({ frames := 0, cells := 0, slots := 0, locals := 0 } : Room) n0 := C
  obtain ⟨S_EMPTY, E_EMPTY, V_EMPTY⟩ := id H
  obtain ⟨kE, V_EMPTY⟩ := V_EMPTY
  obtain ⟨gc, gR, gF, gS, n_c_R, n_c_F, n_c_S, n_R_F, n_R_S, n_F_S, Ov, E0, Fw, Fm, FR, FF, FS, AR, AF, AS⟩ := P
  refine g_aloadN C (pc' := 1) d10_0 rfl rfl rfl ?_
  refine g_getF C (pc' := 4) (wd hw 22 rfl) Via.refl d10_1 rfl FF rfl ?_
  refine g_iloadN C (pc' := 5) d10_4 rfl rfl ?_
  refine g_iaload C (pc' := 6) (x := (0 : Int32)) d10_5 rfl AF (by decide) (by decide) rfl rfl ?_
  refine g_iloadN C (pc' := 7) d10_6 rfl rfl ?_
  refine g_aloadN C (pc' := 8) d10_7 rfl rfl rfl ?_
  refine g_getF C (pc' := 11) (wd hw 13 rfl) Via.refl d10_8 rfl Fw rfl ?_
  refine g_imul C (pc' := 12) d10_11 rfl rfl ?_
  rw [show ((1 : Int32) * (2 : Int32)) = (2 : Int32) from by decide]
  refine g_iadd C (pc' := 13) d10_12 rfl rfl ?_
  rw [show ((0 : Int32) + (2 : Int32)) = (2 : Int32) from by decide]
  refine g_istore C (pc' := 15) (Ls' := #[.val (.ref c), .val (.ref rg), .val (.int (0 : Int32)), .val (.int (1 : Int32)), .val (.int (2 : Int32))]) d10_13 rfl rfl rfl ?_
  refine g_iload C (pc' := 17) d10_15 rfl rfl ?_
  refine g_aloadN C (pc' := 18) d10_17 rfl rfl rfl ?_
  refine g_alen C (pc' := 19) d10_18 rfl Ar rfl ?_
  refine g_icN C (pc' := 22) d10_19 rfl (by decide) rfl ?_
  refine g_iload C (pc' := 24) d10_22 rfl rfl ?_
  refine g_goto C (pc' := 32) d10_24 (by decide) rfl ?_
  exact g_ireturn C d10_32 rfl (Nat.le_of_ble_eq_true rfl) (Nat.le_of_ble_eq_true rfl) (⟨rfl, rfl⟩)
set_option maxRecDepth 65536 in
set_option maxHeartbeats 40000000 in
theorem grow0_0_2 (l : Launch) (Z : State) (a0 : Array Value) (hw : ∀ d ∈ tables_1, d.before a0 Z = true) (n0 : Nat) (h : Heap) (O : Old Z n0 h) (s_EMPTY : Addr) (H : En Z s_EMPTY) (c R F S : Addr) (kR kF kS : ClassId) (m f1 s1 : Int32) (r1 : Value) (hm : ¬ m.toInt64 < (1 : Int64)) (P : RC Z n0 h c R F S kR kF kS (2 : Int32) m (.ref s_EMPTY) r1 (0 : Int32) f1 (0 : Int32) s1) : Con l Z (⟨"com/example/request_throttle/requestthrottle/RingColumn", "grow", "(I)[J"⟩ : MethodName) prog_17_method_10_code 7 (some (.array .long)) ({ frames := 1, cells := 1, slots := 2, locals := 18 } : Room) #[(.ref c), (.int (0 : Int32))] h n0 (fun r h' => ∃ g kJ, r = some (.ref g) ∧ h.size ≤ g ∧ Keep h h' [R, F, S] ∧ Arv Z h' g kJ .long (2 : Int32) [(.long (0 : Int64)), (.long (0 : Int64))] (.long (0 : Int64)) ∧ RC Z n0 h' c R F S kR kF kS (2 : Int32) m (.ref g) r1 (0 : Int32) f1 (0 : Int32) s1) := by
  refine Con.mk (Ls := #[.val (.ref c), .val (.int (0 : Int32)), .unset, .unset, .unset, .unset, .unset]) (plainFor_of_name pn_0) (fun m => by first | (simp [entryFrame, mkF, argsToLocals, Value.category]; done) | rfl) (fun w C => ?_)
  replace C : Cx w l Z "com/example/request_throttle/requestthrottle/RingColumn" prog_17_method_10_code 7 (some (.array .long)) "grow" ({ frames := 1, cells := 1, slots := 2, locals := 18 } : Room) n0 := C
  obtain ⟨S_EMPTY, E_EMPTY, V_EMPTY⟩ := id H
  obtain ⟨kE, V_EMPTY⟩ := V_EMPTY
  obtain ⟨gc, gR, gF, gS, n_c_R, n_c_F, n_c_S, n_R_F, n_R_S, n_F_S, Ov, E0, Fw, Fm, FR, FF, FS, AR, AF, AS⟩ := P
  refine g_aloadN C (pc' := 1) d6_0 rfl rfl rfl ?_
  refine g_getF C (pc' := 4) (wd hw 19 rfl) Via.refl d6_1 rfl FR rfl ?_
  refine g_iloadN C (pc' := 5) d6_4 rfl rfl ?_
  refine g_aaload C (pc' := 6) (x := (.ref s_EMPTY)) d6_5 rfl AR rfl (by decide) (by decide) rfl rfl ?_
  refine g_astoreN C (pc' := 7) (Ls' := #[.val (.ref c), .val (.int (0 : Int32)), .val (.ref s_EMPTY), .unset, .unset, .unset, .unset]) d6_6 rfl rfl rfl rfl ?_
  refine g_lconst C (pc' := 8) (v := (1 : Int64)) d6_7 (by decide) rfl ?_
  refine g_ldc2Long C (pc' := 11) (wd hw 43 rfl) d6_8 rfl ?_
  refine g_aloadN C (pc' := 12) d6_11 rfl rfl rfl ?_
  refine g_alen C (pc' := 13) d6_12 rfl (V_EMPTY.ext O.2) rfl ?_
  refine g_i2l C (pc' := 14) d6_13 rfl rfl ?_
  rw [show (0 : Int32).toInt64 = (0 : Int64) from by decide]
  refine g_lmul C (pc' := 15) d6_14 rfl rfl ?_
  rw [show ((2 : Int64) * (0 : Int64)) = (0 : Int64) from by decide]
  refine g_aloadN C (pc' := 16) d6_15 rfl rfl rfl ?_
  refine g_getF C (pc' := 19) (wd hw 13 rfl) Via.refl d6_16 rfl Fw rfl ?_
  refine g_i2l C (pc' := 20) d6_19 rfl rfl ?_
  rw [show (2 : Int32).toInt64 = (2 : Int64) from by decide]
  refine g_ldiv C (pc' := 21) d6_20 rfl (by decide) rfl ?_
  rw [show ((0 : Int64) / (2 : Int64)) = (0 : Int64) from by decide]
  refine g_callS C (pc' := 24) (k' := 0) (n' := 0) (argsL := [(.long (1 : Int64)), (.long (0 : Int64))]) (rest := []) (wd hw 44 rfl) (wd hw 45 rfl) (wd hw 2 rfl) (wd hw 46 rfl) (by decide) d6_21 pd_6 rfl rfl rfl (max_1_0 l Z a0 hw n0 h O s_EMPTY H) (Nat.le_of_ble_eq_true rfl) (Nat.le_of_ble_eq_true rfl) (Nat.le_of_ble_eq_true rfl) (Nat.le_of_ble_eq_true rfl) rfl rfl rfl (fun v491 h490 q492 => ?_)
  obtain ⟨rfl, eh490⟩ := q492
  subst h490
  show G w _ h 0 0 24 #[.val (.ref c), .val (.int (0 : Int32)), .val (.ref s_EMPTY), .unset, .unset, .unset, .unset] [(.long (1 : Int64))]
  refine g_aloadN C (pc' := 25) d6_24 rfl rfl rfl ?_
  refine g_getF C (pc' := 28) (wd hw 15 rfl) Via.refl d6_25 rfl Fm rfl ?_
  refine g_i2l C (pc' := 29) d6_28 rfl rfl ?_
  refine g_callS C (pc' := 32) (k' := 0) (n' := 0) (argsL := [(.long (1 : Int64)), (.long m.toInt64)]) (rest := []) (wd hw 47 rfl) (wd hw 48 rfl) (wd hw 2 rfl) (wd hw 49 rfl) (by decide) d6_29 pd_6 rfl rfl rfl (min_1 l Z a0 hw n0 h O s_EMPTY H m hm) (Nat.le_of_ble_eq_true rfl) (Nat.le_of_ble_eq_true rfl) (Nat.le_of_ble_eq_true rfl) (Nat.le_of_ble_eq_true rfl) rfl rfl rfl (fun v494 h493 q495 => ?_)
  obtain ⟨rfl, eh493⟩ := q495
  subst h493
  show G w _ h 0 0 32 #[.val (.ref c), .val (.int (0 : Int32)), .val (.ref s_EMPTY), .unset, .unset, .unset, .unset] [(.long (1 : Int64))]
  refine g_lstoreN C (pc' := 33) (Ls' := #[.val (.ref c), .val (.int (0 : Int32)), .val (.ref s_EMPTY), .val (.long (1 : Int64)), .second, .unset, .unset]) d6_32 rfl rfl rfl ?_
  refine g_lloadN C (pc' := 34) d6_33 rfl rfl ?_
  refine g_aloadN C (pc' := 35) d6_34 rfl rfl rfl ?_
  refine g_getF C (pc' := 38) (wd hw 13 rfl) Via.refl d6_35 rfl Fw rfl ?_
  refine g_i2l C (pc' := 39) d6_38 rfl rfl ?_
  rw [show (2 : Int32).toInt64 = (2 : Int64) from by decide]
  refine g_lmul C (pc' := 40) d6_39 rfl rfl ?_
  rw [show ((1 : Int64) * (2 : Int64)) = (2 : Int64) from by decide]
  refine g_callS C (pc' := 43) (k' := 0) (n' := 0) (argsL := [(.long (2 : Int64))]) (rest := []) (wd hw 50 rfl) (wd hw 51 rfl) (wd hw 2 rfl) (wd hw 52 rfl) (by decide) d6_40 pd_7 rfl rfl rfl (tie_2 l Z a0 hw n0 h O s_EMPTY H) (Nat.le_of_ble_eq_true rfl) (Nat.le_of_ble_eq_true rfl) (Nat.le_of_ble_eq_true rfl) (Nat.le_of_ble_eq_true rfl) rfl rfl rfl (fun v497 h496 q498 => ?_)
  obtain ⟨rfl, eh496⟩ := q498
  subst h496
  show G w _ h 0 0 43 #[.val (.ref c), .val (.int (0 : Int32)), .val (.ref s_EMPTY), .val (.long (1 : Int64)), .second, .unset, .unset] [(.int (2 : Int32))]
  refine g_newPE C (pc' := 45) (k' := 1) (n' := 2) (cap := 2) (ad := "[J") (wd hw 53 rfl) (by decide) d6_43 rfl (by decide) (by decide) (by decide) (by decide) (by decide) rfl rfl rfl (fun h499 b500 kA501 ex502 E503 A504 B505 => ?_)
  have ne_c_b500 : c ≠ b500 := Nat.ne_of_lt (by rw [ex502]; exact E0.lt)
  have ne_R_b500 : R ≠ b500 := Nat.ne_of_lt (by rw [ex502]; exact AR.lt)
  have ne_F_b500 : F ≠ b500 := Nat.ne_of_lt (by rw [ex502]; exact AF.lt)
  have ne_S_b500 : S ≠ b500 := Nat.ne_of_lt (by rw [ex502]; exact AS.lt)
  have ne_s_EMPTY_b500 : s_EMPTY ≠ b500 := Nat.ne_of_lt (by rw [ex502]; exact (V_EMPTY.ext O.2).lt)
  have ge_b500 : n0 ≤ b500 := by rw [ex502]; exact O.1 ▸ O.2.1
  have sz_b500 : h.size ≤ b500 := by rw [ex502]; exact (Keep.refl h [R, F, S]).1
  have f506 := O.ext E503
  have f507 := E0.ext E503
  have f508 := Fw.ext E503
  have f509 := Fm.ext E503
  have f510 := FR.ext E503
  have f511 := FF.ext E503
  have f512 := FS.ext E503
  have f513 := AR.ext E503
  have f514 := AF.ext E503
  have f515 := AS.ext E503
  have f516 := (Keep.refl h [R, F, S]).ext E503
  have f517 := (V_EMPTY.ext O.2).ext E503
  have A518 : Arv Z h499 b500 kA501 .long (2 : Int32) [(.long (0 : Int64)), (.long (0 : Int64))] (.long (0 : Int64)) := A504.pad (pad_rep [] (.long (0 : Int64)) 2)
  refine g_astore C (pc' := 47) (Ls' := #[.val (.ref c), .val (.int (0 : Int32)), .val (.ref s_EMPTY), .val (.long (1 : Int64)), .second, .val (.ref b500), .unset]) d6_45 rfl rfl rfl rfl ?_
  refine g_aloadN C (pc' := 48) d6_47 rfl rfl rfl ?_
  refine g_getF C (pc' := 51) (wd hw 22 rfl) Via.refl d6_48 rfl f511 rfl ?_
  refine g_iloadN C (pc' := 52) d6_51 rfl rfl ?_
  refine g_iaload C (pc' := 53) (x := (0 : Int32)) d6_52 rfl f514 (by decide) (by decide) rfl rfl ?_
  refine g_istore C (pc' := 55) (Ls' := #[.val (.ref c), .val (.int (0 : Int32)), .val (.ref s_EMPTY), .val (.long (1 : Int64)), .second, .val (.ref b500), .val (.int (0 : Int32))]) d6_53 rfl rfl rfl ?_
  refine g_aloadN C (pc' := 56) d6_55 rfl rfl rfl ?_
  refine g_iload C (pc' := 58) d6_56 rfl rfl ?_
  refine g_aload C (pc' := 60) d6_58 rfl rfl rfl ?_
  refine g_iconst C (pc' := 61) (v := (0 : Int32)) d6_60 (by decide) rfl ?_
  refine g_aloadN C (pc' := 62) d6_61 rfl rfl rfl ?_
  refine g_alen C (pc' := 63) d6_62 rfl f517 rfl ?_
  refine g_iload C (pc' := 65) d6_63 rfl rfl ?_
  refine g_isub C (pc' := 66) d6_65 rfl rfl ?_
  rw [show ((0 : Int32) - (0 : Int32)) = (0 : Int32) from by decide]
  refine g_cpA C (pc' := 69) (us := []) (wd hw 54 rfl) (wd hw 57 rfl) (wd hw 55 rfl) (wd hw 56 rfl) d6_66 rfl rfl f517 A518 (Or.inl ⟨rfl, rfl⟩) (by decide) (by decide) (by decide) (Nat.le_of_ble_eq_true rfl) (Nat.le_of_ble_eq_true rfl) rfl (Nat.le_of_ble_eq_true rfl) ge_b500 (Nat.le_of_ble_eq_true rfl) (Nat.le_of_ble_eq_true rfl) rfl (fun h519 K520 A521 => ?_)
  have f522 := f506.keep K520 (allS ge_b500 all0)
  have f523 := f507.keep K520
  have f524 := f508.keep K520 (ninS ne_c_b500 nin0)
  have f525 := f509.keep K520 (ninS ne_c_b500 nin0)
  have f526 := f510.keep K520 (ninS ne_c_b500 nin0)
  have f527 := f511.keep K520 (ninS ne_c_b500 nin0)
  have f528 := f512.keep K520 (ninS ne_c_b500 nin0)
  have f529 := f513.keep K520 (ninS ne_R_b500 nin0)
  have f530 := f514.keep K520 (ninS ne_F_b500 nin0)
  have f531 := f515.keep K520 (ninS ne_S_b500 nin0)
  have f532 := f516.trans K520 (allS (Or.inr sz_b500) all0)
  have f533 := f517.keep K520 (ninS ne_s_EMPTY_b500 nin0)
  have f534 := B505.keep K520
  have A535 : Arv Z h519 b500 kA501 .long (2 : Int32) [(.long (0 : Int64)), (.long (0 : Int64))] (.long (0 : Int64)) := A521
  refine g_aloadN C (pc' := 70) d6_69 rfl rfl rfl ?_
  refine g_iconst C (pc' := 71) (v := (0 : Int32)) d6_70 (by decide) rfl ?_
  refine g_aload C (pc' := 73) d6_71 rfl rfl rfl ?_
  refine g_aloadN C (pc' := 74) d6_73 rfl rfl rfl ?_
  refine g_alen C (pc' := 75) d6_74 rfl f533 rfl ?_
  refine g_iload C (pc' := 77) d6_75 rfl rfl ?_
  refine g_isub C (pc' := 78) d6_77 rfl rfl ?_
  rw [show ((0 : Int32) - (0 : Int32)) = (0 : Int32) from by decide]
  refine g_iload C (pc' := 80) d6_78 rfl rfl ?_
  refine g_cpA C (pc' := 83) (us := []) (wd hw 54 rfl) (wd hw 57 rfl) (wd hw 55 rfl) (wd hw 56 rfl) d6_80 rfl rfl f533 A535 (Or.inl ⟨rfl, rfl⟩) (by decide) (by decide) (by decide) (Nat.le_of_ble_eq_true rfl) (Nat.le_of_ble_eq_true rfl) rfl (Nat.le_of_ble_eq_true rfl) ge_b500 (Nat.le_of_ble_eq_true rfl) (Nat.le_of_ble_eq_true rfl) rfl (fun h536 K537 A538 => ?_)
  have f539 := f522.keep K537 (allS ge_b500 all0)
  have f540 := f523.keep K537
  have f541 := f524.keep K537 (ninS ne_c_b500 nin0)
  have f542 := f525.keep K537 (ninS ne_c_b500 nin0)
  have f543 := f526.keep K537 (ninS ne_c_b500 nin0)
  have f544 := f527.keep K537 (ninS ne_c_b500 nin0)
  have f545 := f528.keep K537 (ninS ne_c_b500 nin0)
  have f546 := f529.keep K537 (ninS ne_R_b500 nin0)
  have f547 := f530.keep K537 (ninS ne_F_b500 nin0)
  have f548 := f531.keep K537 (ninS ne_S_b500 nin0)
  have f549 := f532.trans K537 (allS (Or.inr sz_b500) all0)
  have f550 := f533.keep K537 (ninS ne_s_EMPTY_b500 nin0)
  have f551 := f534.keep K537
  have A552 : Arv Z h536 b500 kA501 .long (2 : Int32) [(.long (0 : Int64)), (.long (0 : Int64))] (.long (0 : Int64)) := A538
  refine g_aloadN C (pc' := 84) d6_83 rfl rfl rfl ?_
  refine g_getF C (pc' := 87) (wd hw 19 rfl) Via.refl d6_84 rfl f543 rfl ?_
  refine g_iloadN C (pc' := 88) d6_87 rfl rfl ?_
  refine g_aload C (pc' := 90) d6_88 rfl rfl rfl ?_
  refine g_aastore C (pc' := 91) d6_90 rfl f546 rfl (stoA f546 Ov f551) (by decide) (by decide) gR rfl (fun h553 W554 => ?_)
  have f555 := f539.wr W554 gR
  have f556 := f540.wr W554
  have f557 := f541.other W554 (Or.inl n_c_R)
  have f558 := f542.other W554 (Or.inl n_c_R)
  have f559 := f543.other W554 (Or.inl n_c_R)
  have f560 := f544.other W554 (Or.inl n_c_R)
  have f561 := f545.other W554 (Or.inl n_c_R)
  have f562 := (arv_put f546 rfl W554 (i := 0) rfl (Nat.le_of_ble_eq_true rfl) : Arv Z h553 R kR (.array .long) (2 : Int32) [(.ref b500), r1] .null)
  have f563 := f547.other W554 (Ne.symm n_R_F)
  have f564 := f548.other W554 (Ne.symm n_R_S)
  have f565 := f549.wr W554 (Or.inl (List.mem_of_getElem? (i := 0) rfl))
  have f566 := f550.other W554 (own_old O V_EMPTY.lt gR)
  have f567 := f551.wr W554
  have f568 := A552.other W554 (Ne.symm ne_R_b500)
  refine g_aloadN C (pc' := 92) d6_91 rfl rfl rfl ?_
  refine g_getF C (pc' := 95) (wd hw 22 rfl) Via.refl d6_92 rfl f560 rfl ?_
  refine g_iloadN C (pc' := 96) d6_95 rfl rfl ?_
  refine g_iconst C (pc' := 97) (v := (0 : Int32)) d6_96 (by decide) rfl ?_
  refine g_iastore C (pc' := 98) d6_97 rfl f563 (by decide) (by decide) gF rfl (fun h569 W570 => ?_)
  have f571 := f555.wr W570 gF
  have f572 := f556.wr W570
  have f573 := f557.other W570 (Or.inl n_c_F)
  have f574 := f558.other W570 (Or.inl n_c_F)
  have f575 := f559.other W570 (Or.inl n_c_F)
  have f576 := f560.other W570 (Or.inl n_c_F)
  have f577 := f561.other W570 (Or.inl n_c_F)
  have f578 := f562.other W570 n_R_F
  have f579 := (arv_put f563 rfl W570 (i := 0) rfl (Nat.le_of_ble_eq_true rfl) : Arv Z h569 F kF .int (2 : Int32) [(.int (0 : Int32)), (.int f1)] (.int (0 : Int32)))
  have f580 := f564.other W570 (Ne.symm n_F_S)
  have f581 := f565.wr W570 (Or.inl (List.mem_of_getElem? (i := 1) rfl))
  have f582 := f566.other W570 (own_old O V_EMPTY.lt gF)
  have f583 := f567.wr W570
  have f584 := f568.other W570 (Ne.symm ne_F_b500)
  refine g_aload C (pc' := 100) d6_98 rfl rfl rfl ?_
  exact g_areturn C d6_100 rfl rfl rfl rfl (Nat.le_of_ble_eq_true rfl) (Nat.le_of_ble_eq_true rfl) (⟨b500, kA501, rfl, sz_b500, f581, f584, ⟨gc, gR, gF, gS, n_c_R, n_c_F, n_c_S, n_R_F, n_R_S, n_F_S, Ov, f572, f573, f574, f575, f576, f577, f578, f579, f580⟩⟩)
set_option maxRecDepth 65536 in
set_option maxHeartbeats 40000000 in
theorem grow1_0_2 (l : Launch) (Z : State) (a0 : Array Value) (hw : ∀ d ∈ tables_1, d.before a0 Z = true) (n0 : Nat) (h : Heap) (O : Old Z n0 h) (s_EMPTY : Addr) (H : En Z s_EMPTY) (c R F S : Addr) (kR kF kS : ClassId) (m f1 s1 : Int32) (r1 : Value) (rg : Addr) (grg : n0 ≤ rg) (kJ : ClassId) (y0 y1 : Int64) (Ar : Arv Z h rg kJ .long (2 : Int32) [(.long y0), (.long y1)] (.long (0 : Int64))) (nR : rg ≠ R) (nF : rg ≠ F) (nS : rg ≠ S) (hm : ¬ m.toInt64 < (2 : Int64)) (P : RC Z n0 h c R F S kR kF kS (2 : Int32) m (.ref rg) r1 (0 : Int32) f1 (1 : Int32) s1) : Con l Z (⟨"com/example/request_throttle/requestthrottle/RingColumn", "grow", "(I)[J"⟩ : MethodName) prog_17_method_10_code 7 (some (.array .long)) ({ frames := 1, cells := 1, slots := 4, locals := 18 } : Room) #[(.ref c), (.int (0 : Int32))] h n0 (fun r h' => ∃ g kJ, r = some (.ref g) ∧ h.size ≤ g ∧ Keep h h' [R, F, S] ∧ Arv Z h' g kJ .long (4 : Int32) [(.long y0), (.long y1), (.long (0 : Int64)), (.long (0 : Int64))] (.long (0 : Int64)) ∧ RC Z n0 h' c R F S kR kF kS (2 : Int32) m (.ref g) r1 (0 : Int32) f1 (1 : Int32) s1) := by
  refine Con.mk (Ls := #[.val (.ref c), .val (.int (0 : Int32)), .unset, .unset, .unset, .unset, .unset]) (plainFor_of_name pn_0) (fun m => by first | (simp [entryFrame, mkF, argsToLocals, Value.category]; done) | rfl) (fun w C => ?_)
  replace C : Cx w l Z "com/example/request_throttle/requestthrottle/RingColumn" prog_17_method_10_code 7 (some (.array .long)) "grow" ({ frames := 1, cells := 1, slots := 4, locals := 18 } : Room) n0 := C
  obtain ⟨S_EMPTY, E_EMPTY, V_EMPTY⟩ := id H
  obtain ⟨kE, V_EMPTY⟩ := V_EMPTY
  obtain ⟨gc, gR, gF, gS, n_c_R, n_c_F, n_c_S, n_R_F, n_R_S, n_F_S, Ov, E0, Fw, Fm, FR, FF, FS, AR, AF, AS⟩ := P
  refine g_aloadN C (pc' := 1) d6_0 rfl rfl rfl ?_
  refine g_getF C (pc' := 4) (wd hw 19 rfl) Via.refl d6_1 rfl FR rfl ?_
  refine g_iloadN C (pc' := 5) d6_4 rfl rfl ?_
  refine g_aaload C (pc' := 6) (x := (.ref rg)) d6_5 rfl AR rfl (by decide) (by decide) rfl rfl ?_
  refine g_astoreN C (pc' := 7) (Ls' := #[.val (.ref c), .val (.int (0 : Int32)), .val (.ref rg), .unset, .unset, .unset, .unset]) d6_6 rfl rfl rfl rfl ?_
  refine g_lconst C (pc' := 8) (v := (1 : Int64)) d6_7 (by decide) rfl ?_
  refine g_ldc2Long C (pc' := 11) (wd hw 43 rfl) d6_8 rfl ?_
  refine g_aloadN C (pc' := 12) d6_11 rfl rfl rfl ?_
  refine g_alen C (pc' := 13) d6_12 rfl Ar rfl ?_
  refine g_i2l C (pc' := 14) d6_13 rfl rfl ?_
  rw [show (2 : Int32).toInt64 = (2 : Int64) from by decide]
  refine g_lmul C (pc' := 15) d6_14 rfl rfl ?_
  rw [show ((2 : Int64) * (2 : Int64)) = (4 : Int64) from by decide]
  refine g_aloadN C (pc' := 16) d6_15 rfl rfl rfl ?_
  refine g_getF C (pc' := 19) (wd hw 13 rfl) Via.refl d6_16 rfl Fw rfl ?_
  refine g_i2l C (pc' := 20) d6_19 rfl rfl ?_
  rw [show (2 : Int32).toInt64 = (2 : Int64) from by decide]
  refine g_ldiv C (pc' := 21) d6_20 rfl (by decide) rfl ?_
  rw [show ((4 : Int64) / (2 : Int64)) = (2 : Int64) from by decide]
  refine g_callS C (pc' := 24) (k' := 0) (n' := 0) (argsL := [(.long (1 : Int64)), (.long (2 : Int64))]) (rest := []) (wd hw 44 rfl) (wd hw 45 rfl) (wd hw 2 rfl) (wd hw 46 rfl) (by decide) d6_21 pd_6 rfl rfl rfl (max_1_2 l Z a0 hw n0 h O s_EMPTY H) (Nat.le_of_ble_eq_true rfl) (Nat.le_of_ble_eq_true rfl) (Nat.le_of_ble_eq_true rfl) (Nat.le_of_ble_eq_true rfl) rfl rfl rfl (fun v586 h585 q587 => ?_)
  obtain ⟨rfl, eh585⟩ := q587
  subst h585
  show G w _ h 0 0 24 #[.val (.ref c), .val (.int (0 : Int32)), .val (.ref rg), .unset, .unset, .unset, .unset] [(.long (2 : Int64))]
  refine g_aloadN C (pc' := 25) d6_24 rfl rfl rfl ?_
  refine g_getF C (pc' := 28) (wd hw 15 rfl) Via.refl d6_25 rfl Fm rfl ?_
  refine g_i2l C (pc' := 29) d6_28 rfl rfl ?_
  refine g_callS C (pc' := 32) (k' := 0) (n' := 0) (argsL := [(.long (2 : Int64)), (.long m.toInt64)]) (rest := []) (wd hw 47 rfl) (wd hw 48 rfl) (wd hw 2 rfl) (wd hw 49 rfl) (by decide) d6_29 pd_6 rfl rfl rfl (min_2 l Z a0 hw n0 h O s_EMPTY H m hm) (Nat.le_of_ble_eq_true rfl) (Nat.le_of_ble_eq_true rfl) (Nat.le_of_ble_eq_true rfl) (Nat.le_of_ble_eq_true rfl) rfl rfl rfl (fun v589 h588 q590 => ?_)
  obtain ⟨rfl, eh588⟩ := q590
  subst h588
  show G w _ h 0 0 32 #[.val (.ref c), .val (.int (0 : Int32)), .val (.ref rg), .unset, .unset, .unset, .unset] [(.long (2 : Int64))]
  refine g_lstoreN C (pc' := 33) (Ls' := #[.val (.ref c), .val (.int (0 : Int32)), .val (.ref rg), .val (.long (2 : Int64)), .second, .unset, .unset]) d6_32 rfl rfl rfl ?_
  refine g_lloadN C (pc' := 34) d6_33 rfl rfl ?_
  refine g_aloadN C (pc' := 35) d6_34 rfl rfl rfl ?_
  refine g_getF C (pc' := 38) (wd hw 13 rfl) Via.refl d6_35 rfl Fw rfl ?_
  refine g_i2l C (pc' := 39) d6_38 rfl rfl ?_
  rw [show (2 : Int32).toInt64 = (2 : Int64) from by decide]
  refine g_lmul C (pc' := 40) d6_39 rfl rfl ?_
  rw [show ((2 : Int64) * (2 : Int64)) = (4 : Int64) from by decide]
  refine g_callS C (pc' := 43) (k' := 0) (n' := 0) (argsL := [(.long (4 : Int64))]) (rest := []) (wd hw 50 rfl) (wd hw 51 rfl) (wd hw 2 rfl) (wd hw 52 rfl) (by decide) d6_40 pd_7 rfl rfl rfl (tie_4 l Z a0 hw n0 h O s_EMPTY H) (Nat.le_of_ble_eq_true rfl) (Nat.le_of_ble_eq_true rfl) (Nat.le_of_ble_eq_true rfl) (Nat.le_of_ble_eq_true rfl) rfl rfl rfl (fun v592 h591 q593 => ?_)
  obtain ⟨rfl, eh591⟩ := q593
  subst h591
  show G w _ h 0 0 43 #[.val (.ref c), .val (.int (0 : Int32)), .val (.ref rg), .val (.long (2 : Int64)), .second, .unset, .unset] [(.int (4 : Int32))]
  refine g_newPE C (pc' := 45) (k' := 1) (n' := 4) (cap := 4) (ad := "[J") (wd hw 53 rfl) (by decide) d6_43 rfl (by decide) (by decide) (by decide) (by decide) (by decide) rfl rfl rfl (fun h594 b595 kA596 ex597 E598 A599 B600 => ?_)
  have ne_c_b595 : c ≠ b595 := Nat.ne_of_lt (by rw [ex597]; exact E0.lt)
  have ne_R_b595 : R ≠ b595 := Nat.ne_of_lt (by rw [ex597]; exact AR.lt)
  have ne_F_b595 : F ≠ b595 := Nat.ne_of_lt (by rw [ex597]; exact AF.lt)
  have ne_S_b595 : S ≠ b595 := Nat.ne_of_lt (by rw [ex597]; exact AS.lt)
  have ne_rg_b595 : rg ≠ b595 := Nat.ne_of_lt (by rw [ex597]; exact Ar.lt)
  have ge_b595 : n0 ≤ b595 := by rw [ex597]; exact O.1 ▸ O.2.1
  have sz_b595 : h.size ≤ b595 := by rw [ex597]; exact (Keep.refl h [R, F, S]).1
  have f601 := O.ext E598
  have f602 := E0.ext E598
  have f603 := Fw.ext E598
  have f604 := Fm.ext E598
  have f605 := FR.ext E598
  have f606 := FF.ext E598
  have f607 := FS.ext E598
  have f608 := AR.ext E598
  have f609 := AF.ext E598
  have f610 := AS.ext E598
  have f611 := (Keep.refl h [R, F, S]).ext E598
  have f612 := Ar.ext E598
  have A613 : Arv Z h594 b595 kA596 .long (4 : Int32) [(.long (0 : Int64)), (.long (0 : Int64)), (.long (0 : Int64)), (.long (0 : Int64))] (.long (0 : Int64)) := A599.pad (pad_rep [] (.long (0 : Int64)) 4)
  refine g_astore C (pc' := 47) (Ls' := #[.val (.ref c), .val (.int (0 : Int32)), .val (.ref rg), .val (.long (2 : Int64)), .second, .val (.ref b595), .unset]) d6_45 rfl rfl rfl rfl ?_
  refine g_aloadN C (pc' := 48) d6_47 rfl rfl rfl ?_
  refine g_getF C (pc' := 51) (wd hw 22 rfl) Via.refl d6_48 rfl f606 rfl ?_
  refine g_iloadN C (pc' := 52) d6_51 rfl rfl ?_
  refine g_iaload C (pc' := 53) (x := (0 : Int32)) d6_52 rfl f609 (by decide) (by decide) rfl rfl ?_
  refine g_istore C (pc' := 55) (Ls' := #[.val (.ref c), .val (.int (0 : Int32)), .val (.ref rg), .val (.long (2 : Int64)), .second, .val (.ref b595), .val (.int (0 : Int32))]) d6_53 rfl rfl rfl ?_
  refine g_aloadN C (pc' := 56) d6_55 rfl rfl rfl ?_
  refine g_iload C (pc' := 58) d6_56 rfl rfl ?_
  refine g_aload C (pc' := 60) d6_58 rfl rfl rfl ?_
  refine g_iconst C (pc' := 61) (v := (0 : Int32)) d6_60 (by decide) rfl ?_
  refine g_aloadN C (pc' := 62) d6_61 rfl rfl rfl ?_
  refine g_alen C (pc' := 63) d6_62 rfl f612 rfl ?_
  refine g_iload C (pc' := 65) d6_63 rfl rfl ?_
  refine g_isub C (pc' := 66) d6_65 rfl rfl ?_
  rw [show ((2 : Int32) - (0 : Int32)) = (2 : Int32) from by decide]
  refine g_cpA C (pc' := 69) (us := [(.long y0), (.long y1)]) (wd hw 54 rfl) (wd hw 57 rfl) (wd hw 55 rfl) (wd hw 56 rfl) d6_66 rfl rfl f612 A613 (Or.inl ⟨rfl, rfl⟩) (by decide) (by decide) (by decide) (Nat.le_of_ble_eq_true rfl) (Nat.le_of_ble_eq_true rfl) rfl (Nat.le_of_ble_eq_true rfl) ge_b595 (Nat.le_of_ble_eq_true rfl) (Nat.le_of_ble_eq_true rfl) rfl (fun h614 K615 A616 => ?_)
  have f617 := f601.keep K615 (allS ge_b595 all0)
  have f618 := f602.keep K615
  have f619 := f603.keep K615 (ninS ne_c_b595 nin0)
  have f620 := f604.keep K615 (ninS ne_c_b595 nin0)
  have f621 := f605.keep K615 (ninS ne_c_b595 nin0)
  have f622 := f606.keep K615 (ninS ne_c_b595 nin0)
  have f623 := f607.keep K615 (ninS ne_c_b595 nin0)
  have f624 := f608.keep K615 (ninS ne_R_b595 nin0)
  have f625 := f609.keep K615 (ninS ne_F_b595 nin0)
  have f626 := f610.keep K615 (ninS ne_S_b595 nin0)
  have f627 := f611.trans K615 (allS (Or.inr sz_b595) all0)
  have f628 := f612.keep K615 (ninS ne_rg_b595 nin0)
  have f629 := B600.keep K615
  have A630 : Arv Z h614 b595 kA596 .long (4 : Int32) [(.long y0), (.long y1), (.long (0 : Int64)), (.long (0 : Int64))] (.long (0 : Int64)) := A616
  refine g_aloadN C (pc' := 70) d6_69 rfl rfl rfl ?_
  refine g_iconst C (pc' := 71) (v := (0 : Int32)) d6_70 (by decide) rfl ?_
  refine g_aload C (pc' := 73) d6_71 rfl rfl rfl ?_
  refine g_aloadN C (pc' := 74) d6_73 rfl rfl rfl ?_
  refine g_alen C (pc' := 75) d6_74 rfl f628 rfl ?_
  refine g_iload C (pc' := 77) d6_75 rfl rfl ?_
  refine g_isub C (pc' := 78) d6_77 rfl rfl ?_
  rw [show ((2 : Int32) - (0 : Int32)) = (2 : Int32) from by decide]
  refine g_iload C (pc' := 80) d6_78 rfl rfl ?_
  refine g_cpA C (pc' := 83) (us := []) (wd hw 54 rfl) (wd hw 57 rfl) (wd hw 55 rfl) (wd hw 56 rfl) d6_80 rfl rfl f628 A630 (Or.inl ⟨rfl, rfl⟩) (by decide) (by decide) (by decide) (Nat.le_of_ble_eq_true rfl) (Nat.le_of_ble_eq_true rfl) rfl (Nat.le_of_ble_eq_true rfl) ge_b595 (Nat.le_of_ble_eq_true rfl) (Nat.le_of_ble_eq_true rfl) rfl (fun h631 K632 A633 => ?_)
  have f634 := f617.keep K632 (allS ge_b595 all0)
  have f635 := f618.keep K632
  have f636 := f619.keep K632 (ninS ne_c_b595 nin0)
  have f637 := f620.keep K632 (ninS ne_c_b595 nin0)
  have f638 := f621.keep K632 (ninS ne_c_b595 nin0)
  have f639 := f622.keep K632 (ninS ne_c_b595 nin0)
  have f640 := f623.keep K632 (ninS ne_c_b595 nin0)
  have f641 := f624.keep K632 (ninS ne_R_b595 nin0)
  have f642 := f625.keep K632 (ninS ne_F_b595 nin0)
  have f643 := f626.keep K632 (ninS ne_S_b595 nin0)
  have f644 := f627.trans K632 (allS (Or.inr sz_b595) all0)
  have f645 := f628.keep K632 (ninS ne_rg_b595 nin0)
  have f646 := f629.keep K632
  have A647 : Arv Z h631 b595 kA596 .long (4 : Int32) [(.long y0), (.long y1), (.long (0 : Int64)), (.long (0 : Int64))] (.long (0 : Int64)) := A633
  refine g_aloadN C (pc' := 84) d6_83 rfl rfl rfl ?_
  refine g_getF C (pc' := 87) (wd hw 19 rfl) Via.refl d6_84 rfl f638 rfl ?_
  refine g_iloadN C (pc' := 88) d6_87 rfl rfl ?_
  refine g_aload C (pc' := 90) d6_88 rfl rfl rfl ?_
  refine g_aastore C (pc' := 91) d6_90 rfl f641 rfl (stoA f641 Ov f646) (by decide) (by decide) gR rfl (fun h648 W649 => ?_)
  have f650 := f634.wr W649 gR
  have f651 := f635.wr W649
  have f652 := f636.other W649 (Or.inl n_c_R)
  have f653 := f637.other W649 (Or.inl n_c_R)
  have f654 := f638.other W649 (Or.inl n_c_R)
  have f655 := f639.other W649 (Or.inl n_c_R)
  have f656 := f640.other W649 (Or.inl n_c_R)
  have f657 := (arv_put f641 rfl W649 (i := 0) rfl (Nat.le_of_ble_eq_true rfl) : Arv Z h648 R kR (.array .long) (2 : Int32) [(.ref b595), r1] .null)
  have f658 := f642.other W649 (Ne.symm n_R_F)
  have f659 := f643.other W649 (Ne.symm n_R_S)
  have f660 := f644.wr W649 (Or.inl (List.mem_of_getElem? (i := 0) rfl))
  have f661 := f645.other W649 nR
  have f662 := f646.wr W649
  have f663 := A647.other W649 (Ne.symm ne_R_b595)
  refine g_aloadN C (pc' := 92) d6_91 rfl rfl rfl ?_
  refine g_getF C (pc' := 95) (wd hw 22 rfl) Via.refl d6_92 rfl f655 rfl ?_
  refine g_iloadN C (pc' := 96) d6_95 rfl rfl ?_
  refine g_iconst C (pc' := 97) (v := (0 : Int32)) d6_96 (by decide) rfl ?_
  refine g_iastore C (pc' := 98) d6_97 rfl f658 (by decide) (by decide) gF rfl (fun h664 W665 => ?_)
  have f666 := f650.wr W665 gF
  have f667 := f651.wr W665
  have f668 := f652.other W665 (Or.inl n_c_F)
  have f669 := f653.other W665 (Or.inl n_c_F)
  have f670 := f654.other W665 (Or.inl n_c_F)
  have f671 := f655.other W665 (Or.inl n_c_F)
  have f672 := f656.other W665 (Or.inl n_c_F)
  have f673 := f657.other W665 n_R_F
  have f674 := (arv_put f658 rfl W665 (i := 0) rfl (Nat.le_of_ble_eq_true rfl) : Arv Z h664 F kF .int (2 : Int32) [(.int (0 : Int32)), (.int f1)] (.int (0 : Int32)))
  have f675 := f659.other W665 (Ne.symm n_F_S)
  have f676 := f660.wr W665 (Or.inl (List.mem_of_getElem? (i := 1) rfl))
  have f677 := f661.other W665 nF
  have f678 := f662.wr W665
  have f679 := f663.other W665 (Ne.symm ne_F_b595)
  refine g_aload C (pc' := 100) d6_98 rfl rfl rfl ?_
  exact g_areturn C d6_100 rfl rfl rfl rfl (Nat.le_of_ble_eq_true rfl) (Nat.le_of_ble_eq_true rfl) (⟨b595, kA596, rfl, sz_b595, f676, f679, ⟨gc, gR, gF, gS, n_c_R, n_c_F, n_c_S, n_R_F, n_R_S, n_F_S, Ov, f667, f668, f669, f670, f671, f672, f673, f674, f675⟩⟩)
set_option maxRecDepth 65536 in
set_option maxHeartbeats 40000000 in
theorem add0_0_2 (l : Launch) (Z : State) (a0 : Array Value) (hw : ∀ d ∈ tables_1, d.before a0 Z = true) (n0 : Nat) (h : Heap) (O : Old Z n0 h) (s_EMPTY : Addr) (H : En Z s_EMPTY) (c R F S : Addr) (kR kF kS : ClassId) (m f1 s1 : Int32) (r1 : Value) (x : Int64) (hm : ¬ m.toInt64 < (1 : Int64)) (P : RC Z n0 h c R F S kR kF kS (2 : Int32) m (.ref s_EMPTY) r1 (0 : Int32) f1 (0 : Int32) s1) : Con l Z (⟨"com/example/request_throttle/requestthrottle/RingColumn", "add", "(IJ)V"⟩ : MethodName) prog_17_method_6_code 5 none ({ frames := 2, cells := 1, slots := 2, locals := 36 } : Room) #[(.ref c), (.int (0 : Int32)), (.long x)] h n0 (fun r h' => r = none ∧ ∃ g kJ, h.size ≤ g ∧ Keep h h' [R, F, S] ∧ Arv Z h' g kJ .long (2 : Int32) [(.long x), (.long (0 : Int64))] (.long (0 : Int64)) ∧ RC Z n0 h' c R F S kR kF kS (2 : Int32) m (.ref g) r1 (0 : Int32) f1 (1 : Int32) s1) := by
  refine Con.mk (Ls := #[.val (.ref c), .val (.int (0 : Int32)), .val (.long x), .second, .unset]) (plainFor_of_name pn_0) (fun m => by first | (simp [entryFrame, mkF, argsToLocals, Value.category]; done) | rfl) (fun w C => ?_)
  replace C : Cx w l Z "com/example/request_throttle/requestthrottle/RingColumn" prog_17_method_6_code 5 none "add" ({ frames := 2, cells := 1, slots := 2, locals := 36 } : Room) n0 := C
  obtain ⟨S_EMPTY, E_EMPTY, V_EMPTY⟩ := id H
  obtain ⟨kE, V_EMPTY⟩ := V_EMPTY
  obtain ⟨gc, gR, gF, gS, n_c_R, n_c_F, n_c_S, n_R_F, n_R_S, n_F_S, Ov, E0, Fw, Fm, FR, FF, FS, AR, AF, AS⟩ := P
  refine g_aloadN C (pc' := 1) d5_0 rfl rfl rfl ?_
  refine g_getF C (pc' := 4) (wd hw 19 rfl) Via.refl d5_1 rfl FR rfl ?_
  refine g_iloadN C (pc' := 5) d5_4 rfl rfl ?_
  refine g_aaload C (pc' := 6) (x := (.ref s_EMPTY)) d5_5 rfl AR rfl (by decide) (by decide) rfl rfl ?_
  refine g_astore C (pc' := 8) (Ls' := #[.val (.ref c), .val (.int (0 : Int32)), .val (.long x), .second, .val (.ref s_EMPTY)]) d5_6 rfl rfl rfl rfl ?_
  refine g_aloadN C (pc' := 9) d5_8 rfl rfl rfl ?_
  refine g_getF C (pc' := 12) (wd hw 24 rfl) Via.refl d5_9 rfl FS rfl ?_
  refine g_iloadN C (pc' := 13) d5_12 rfl rfl ?_
  refine g_iaload C (pc' := 14) (x := (0 : Int32)) d5_13 rfl AS (by decide) (by decide) rfl rfl ?_
  refine g_aloadN C (pc' := 15) d5_14 rfl rfl rfl ?_
  refine g_getF C (pc' := 18) (wd hw 13 rfl) Via.refl d5_15 rfl Fw rfl ?_
  refine g_imul C (pc' := 19) d5_18 rfl rfl ?_
  rw [show ((0 : Int32) * (2 : Int32)) = (0 : Int32) from by decide]
  refine g_aload C (pc' := 21) d5_19 rfl rfl rfl ?_
  refine g_alen C (pc' := 22) d5_21 rfl (V_EMPTY.ext O.2) rfl ?_
  refine g_icN C (pc' := 25) d5_22 rfl (by decide) rfl ?_
  refine g_aloadN C (pc' := 26) d5_25 rfl rfl rfl ?_
  refine g_iloadN C (pc' := 27) d5_26 rfl rfl ?_
  refine g_private C (pc' := 30) (k' := 1) (n' := 2) (argsL := [(.int (0 : Int32))]) (rest := []) (wd hw 39 rfl) (wd hw 40 rfl) (wd hw 5 rfl) (wd hw 41 rfl) (wd hw 6 rfl) (wd hw 42 rfl) (by decide) d5_27 pd_5 rfl rfl rfl E0 (grow0_0_2 l Z a0 hw n0 h O s_EMPTY H c R F S kR kF kS m f1 s1 r1 hm ⟨gc, gR, gF, gS, n_c_R, n_c_F, n_c_S, n_R_F, n_R_S, n_F_S, Ov, E0, Fw, Fm, FR, FF, FS, AR, AF, AS⟩) (Nat.le_of_ble_eq_true rfl) (Nat.le_of_ble_eq_true rfl) (Nat.le_of_ble_eq_true rfl) (Nat.le_of_ble_eq_true rfl) rfl rfl rfl (fun v681 h680 q682 => ?_)
  obtain ⟨g, kG, rfl, hg, Kg, Ag, Pg⟩ := q682
  have ne_c_g : c ≠ g := Nat.ne_of_lt (Nat.lt_of_lt_of_le E0.lt hg)
  have ne_R_g : R ≠ g := Nat.ne_of_lt (Nat.lt_of_lt_of_le AR.lt hg)
  have ne_F_g : F ≠ g := Nat.ne_of_lt (Nat.lt_of_lt_of_le AF.lt hg)
  have ne_S_g : S ≠ g := Nat.ne_of_lt (Nat.lt_of_lt_of_le AS.lt hg)
  have ne_s_EMPTY_g : s_EMPTY ≠ g := Nat.ne_of_lt (Nat.lt_of_lt_of_le (V_EMPTY.ext O.2).lt hg)
  have ge_g : n0 ≤ g := Nat.le_trans (O.1 ▸ O.2.1) hg
  have sz_g : h.size ≤ g := Nat.le_trans (Keep.refl h [R, F, S]).1 hg
  have f683 := O.keep Kg (allS gR (allS gF (allS gS all0)))
  have f684 := E0.keep Kg
  have f685 := Fw.keep Kg (ninS n_c_R (ninS n_c_F (ninS n_c_S nin0)))
  have f686 := Fm.keep Kg (ninS n_c_R (ninS n_c_F (ninS n_c_S nin0)))
  have f687 := FR.keep Kg (ninS n_c_R (ninS n_c_F (ninS n_c_S nin0)))
  have f688 := FF.keep Kg (ninS n_c_R (ninS n_c_F (ninS n_c_S nin0)))
  have f689 := FS.keep Kg (ninS n_c_R (ninS n_c_F (ninS n_c_S nin0)))
  have f690 := (Keep.refl h [R, F, S]).trans Kg (allS (Or.inl (List.mem_of_getElem? (i := 0) rfl)) (allS (Or.inl (List.mem_of_getElem? (i := 1) rfl)) (allS (Or.inl (List.mem_of_getElem? (i := 2) rfl)) all0)))
  have f691 := (V_EMPTY.ext O.2).keep Kg (ninS (own_old O V_EMPTY.lt gR) (ninS (own_old O V_EMPTY.lt gF) (ninS (own_old O V_EMPTY.lt gS) nin0)))
  obtain ⟨qgc, qgR, qgF, qgS, qn_c_R, qn_c_F, qn_c_S, qn_R_F, qn_R_S, qn_F_S, qOv, qE0, qFw, qFm, qFR, qFF, qFS, qAR, qAF, qAS⟩ := Pg
  show G w _ h680 1 2 30 #[.val (.ref c), .val (.int (0 : Int32)), .val (.long x), .second, .val (.ref s_EMPTY)] [(.ref g)]
  refine g_astore C (pc' := 32) (Ls' := #[.val (.ref c), .val (.int (0 : Int32)), .val (.long x), .second, .val (.ref g)]) d5_30 rfl rfl rfl rfl ?_
  refine g_aload C (pc' := 34) d5_32 rfl rfl rfl ?_
  refine g_aloadN C (pc' := 35) d5_34 rfl rfl rfl ?_
  refine g_aload C (pc' := 37) d5_35 rfl rfl rfl ?_
  refine g_iloadN C (pc' := 38) d5_37 rfl rfl ?_
  refine g_aloadN C (pc' := 39) d5_38 rfl rfl rfl ?_
  refine g_getF C (pc' := 42) (wd hw 24 rfl) Via.refl d5_39 rfl qFS rfl ?_
  refine g_iloadN C (pc' := 43) d5_42 rfl rfl ?_
  refine g_iaload C (pc' := 44) (x := (0 : Int32)) d5_43 rfl qAS (by decide) (by decide) rfl rfl ?_
  refine g_private C (pc' := 47) (k' := 1) (n' := 2) (argsL := [(.ref g), (.int (0 : Int32)), (.int (0 : Int32))]) (rest := [(.ref g)]) (wd hw 58 rfl) (wd hw 59 rfl) (wd hw 5 rfl) (wd hw 60 rfl) (wd hw 6 rfl) (wd hw 61 rfl) (by decide) d5_44 pd_9 rfl rfl rfl qE0 (start_0_2_0 l Z a0 hw n0 h680 f683 s_EMPTY H c R F S kR kF kS m f1 (0 : Int32) s1 (.ref g) r1 g kG (0 : Int64) (0 : Int64) Ag ⟨gc, gR, gF, gS, n_c_R, n_c_F, n_c_S, n_R_F, n_R_S, n_F_S, Ov, qE0, qFw, qFm, qFR, qFF, qFS, qAR, qAF, qAS⟩) (Nat.le_of_ble_eq_true rfl) (Nat.le_of_ble_eq_true rfl) (Nat.le_of_ble_eq_true rfl) (Nat.le_of_ble_eq_true rfl) rfl rfl rfl (fun v693 h692 q694 => ?_)
  obtain ⟨rfl, eh692⟩ := q694
  subst h692
  show G w _ h680 1 2 47 #[.val (.ref c), .val (.int (0 : Int32)), .val (.long x), .second, .val (.ref g)] [(.int (0 : Int32)), (.ref g)]
  refine g_lloadN C (pc' := 48) d5_47 rfl rfl ?_
  refine g_lastore C (pc' := 49) d5_48 rfl Ag (by decide) (by decide) ge_g rfl (fun h695 W696 => ?_)
  have f697 := f683.wr W696 ge_g
  have f698 := qE0.wr W696
  have f699 := f690.wr W696 (Or.inr sz_g)
  have f700 := f691.other W696 ne_s_EMPTY_g
  have f701 := qFw.other W696 (Or.inl ne_c_g)
  have f702 := qFm.other W696 (Or.inl ne_c_g)
  have f703 := qFR.other W696 (Or.inl ne_c_g)
  have f704 := qFF.other W696 (Or.inl ne_c_g)
  have f705 := qFS.other W696 (Or.inl ne_c_g)
  have f706 := qAR.other W696 ne_R_g
  have f707 := qAF.other W696 ne_F_g
  have f708 := qAS.other W696 ne_S_g
  have f709 := (arv_put Ag rfl W696 (i := 0) rfl (Nat.le_of_ble_eq_true rfl) : Arv Z h695 g kG .long (2 : Int32) [(.long x), (.long (0 : Int64))] (.long (0 : Int64)))
  refine g_aloadN C (pc' := 50) d5_49 rfl rfl rfl ?_
  refine g_getF C (pc' := 53) (wd hw 24 rfl) Via.refl d5_50 rfl f705 rfl ?_
  refine g_iloadN C (pc' := 54) d5_53 rfl rfl ?_
  refine g_dup2 C (pc' := 55) d5_54 rfl rfl rfl rfl ?_
  refine g_iaload C (pc' := 56) (x := (0 : Int32)) d5_55 rfl f708 (by decide) (by decide) rfl rfl ?_
  refine g_iconst C (pc' := 57) (v := (1 : Int32)) d5_56 (by decide) rfl ?_
  refine g_iadd C (pc' := 58) d5_57 rfl rfl ?_
  rw [show ((0 : Int32) + (1 : Int32)) = (1 : Int32) from by decide]
  refine g_iastore C (pc' := 59) d5_58 rfl f708 (by decide) (by decide) gS rfl (fun h710 W711 => ?_)
  have f712 := f697.wr W711 gS
  have f713 := f698.wr W711
  have f714 := f699.wr W711 (Or.inl (List.mem_of_getElem? (i := 2) rfl))
  have f715 := f700.other W711 (own_old O V_EMPTY.lt gS)
  have f716 := f701.other W711 (Or.inl n_c_S)
  have f717 := f702.other W711 (Or.inl n_c_S)
  have f718 := f703.other W711 (Or.inl n_c_S)
  have f719 := f704.other W711 (Or.inl n_c_S)
  have f720 := f705.other W711 (Or.inl n_c_S)
  have f721 := f706.other W711 n_R_S
  have f722 := f707.other W711 n_F_S
  have f723 := (arv_put f708 rfl W711 (i := 0) rfl (Nat.le_of_ble_eq_true rfl) : Arv Z h710 S kS .int (2 : Int32) [(.int (1 : Int32)), (.int s1)] (.int (0 : Int32)))
  have f724 := f709.other W711 (Ne.symm ne_S_g)
  exact g_return C d5_59 rfl (Nat.le_of_ble_eq_true rfl) (Nat.le_of_ble_eq_true rfl) (⟨rfl, g, kG, sz_g, f714, f724, ⟨gc, gR, gF, gS, n_c_R, n_c_F, n_c_S, n_R_F, n_R_S, n_F_S, Ov, f713, f716, f717, f718, f719, f720, f721, f722, f723⟩⟩)
set_option maxRecDepth 65536 in
set_option maxHeartbeats 40000000 in
theorem add1_0_2 (l : Launch) (Z : State) (a0 : Array Value) (hw : ∀ d ∈ tables_1, d.before a0 Z = true) (n0 : Nat) (h : Heap) (O : Old Z n0 h) (s_EMPTY : Addr) (H : En Z s_EMPTY) (c R F S : Addr) (kR kF kS : ClassId) (m f1 s1 : Int32) (r1 : Value) (x : Int64) (rg : Addr) (grg : n0 ≤ rg) (kJ : ClassId) (y0 y1 : Int64) (Ar : Arv Z h rg kJ .long (2 : Int32) [(.long y0), (.long y1)] (.long (0 : Int64))) (nR : rg ≠ R) (nF : rg ≠ F) (nS : rg ≠ S) (hm : ¬ m.toInt64 < (2 : Int64)) (P : RC Z n0 h c R F S kR kF kS (2 : Int32) m (.ref rg) r1 (0 : Int32) f1 (1 : Int32) s1) : Con l Z (⟨"com/example/request_throttle/requestthrottle/RingColumn", "add", "(IJ)V"⟩ : MethodName) prog_17_method_6_code 5 none ({ frames := 2, cells := 1, slots := 4, locals := 36 } : Room) #[(.ref c), (.int (0 : Int32)), (.long x)] h n0 (fun r h' => r = none ∧ ∃ g kJ, h.size ≤ g ∧ Keep h h' [R, F, S] ∧ Arv Z h' g kJ .long (4 : Int32) [(.long y0), (.long y1), (.long x), (.long (0 : Int64))] (.long (0 : Int64)) ∧ RC Z n0 h' c R F S kR kF kS (2 : Int32) m (.ref g) r1 (0 : Int32) f1 (2 : Int32) s1) := by
  refine Con.mk (Ls := #[.val (.ref c), .val (.int (0 : Int32)), .val (.long x), .second, .unset]) (plainFor_of_name pn_0) (fun m => by first | (simp [entryFrame, mkF, argsToLocals, Value.category]; done) | rfl) (fun w C => ?_)
  replace C : Cx w l Z "com/example/request_throttle/requestthrottle/RingColumn" prog_17_method_6_code 5 none "add" ({ frames := 2, cells := 1, slots := 4, locals := 36 } : Room) n0 := C
  obtain ⟨S_EMPTY, E_EMPTY, V_EMPTY⟩ := id H
  obtain ⟨kE, V_EMPTY⟩ := V_EMPTY
  obtain ⟨gc, gR, gF, gS, n_c_R, n_c_F, n_c_S, n_R_F, n_R_S, n_F_S, Ov, E0, Fw, Fm, FR, FF, FS, AR, AF, AS⟩ := P
  refine g_aloadN C (pc' := 1) d5_0 rfl rfl rfl ?_
  refine g_getF C (pc' := 4) (wd hw 19 rfl) Via.refl d5_1 rfl FR rfl ?_
  refine g_iloadN C (pc' := 5) d5_4 rfl rfl ?_
  refine g_aaload C (pc' := 6) (x := (.ref rg)) d5_5 rfl AR rfl (by decide) (by decide) rfl rfl ?_
  refine g_astore C (pc' := 8) (Ls' := #[.val (.ref c), .val (.int (0 : Int32)), .val (.long x), .second, .val (.ref rg)]) d5_6 rfl rfl rfl rfl ?_
  refine g_aloadN C (pc' := 9) d5_8 rfl rfl rfl ?_
  refine g_getF C (pc' := 12) (wd hw 24 rfl) Via.refl d5_9 rfl FS rfl ?_
  refine g_iloadN C (pc' := 13) d5_12 rfl rfl ?_
  refine g_iaload C (pc' := 14) (x := (1 : Int32)) d5_13 rfl AS (by decide) (by decide) rfl rfl ?_
  refine g_aloadN C (pc' := 15) d5_14 rfl rfl rfl ?_
  refine g_getF C (pc' := 18) (wd hw 13 rfl) Via.refl d5_15 rfl Fw rfl ?_
  refine g_imul C (pc' := 19) d5_18 rfl rfl ?_
  rw [show ((1 : Int32) * (2 : Int32)) = (2 : Int32) from by decide]
  refine g_aload C (pc' := 21) d5_19 rfl rfl rfl ?_
  refine g_alen C (pc' := 22) d5_21 rfl Ar rfl ?_
  refine g_icN C (pc' := 25) d5_22 rfl (by decide) rfl ?_
  refine g_aloadN C (pc' := 26) d5_25 rfl rfl rfl ?_
  refine g_iloadN C (pc' := 27) d5_26 rfl rfl ?_
  refine g_private C (pc' := 30) (k' := 1) (n' := 4) (argsL := [(.int (0 : Int32))]) (rest := []) (wd hw 39 rfl) (wd hw 40 rfl) (wd hw 5 rfl) (wd hw 41 rfl) (wd hw 6 rfl) (wd hw 42 rfl) (by decide) d5_27 pd_5 rfl rfl rfl E0 (grow1_0_2 l Z a0 hw n0 h O s_EMPTY H c R F S kR kF kS m f1 s1 r1 rg grg kJ y0 y1 Ar nR nF nS hm ⟨gc, gR, gF, gS, n_c_R, n_c_F, n_c_S, n_R_F, n_R_S, n_F_S, Ov, E0, Fw, Fm, FR, FF, FS, AR, AF, AS⟩) (Nat.le_of_ble_eq_true rfl) (Nat.le_of_ble_eq_true rfl) (Nat.le_of_ble_eq_true rfl) (Nat.le_of_ble_eq_true rfl) rfl rfl rfl (fun v726 h725 q727 => ?_)
  obtain ⟨g, kG, rfl, hg, Kg, Ag, Pg⟩ := q727
  have ne_c_g : c ≠ g := Nat.ne_of_lt (Nat.lt_of_lt_of_le E0.lt hg)
  have ne_R_g : R ≠ g := Nat.ne_of_lt (Nat.lt_of_lt_of_le AR.lt hg)
  have ne_F_g : F ≠ g := Nat.ne_of_lt (Nat.lt_of_lt_of_le AF.lt hg)
  have ne_S_g : S ≠ g := Nat.ne_of_lt (Nat.lt_of_lt_of_le AS.lt hg)
  have ne_rg_g : rg ≠ g := Nat.ne_of_lt (Nat.lt_of_lt_of_le Ar.lt hg)
  have ge_g : n0 ≤ g := Nat.le_trans (O.1 ▸ O.2.1) hg
  have sz_g : h.size ≤ g := Nat.le_trans (Keep.refl h [R, F, S]).1 hg
  have f728 := O.keep Kg (allS gR (allS gF (allS gS all0)))
  have f729 := E0.keep Kg
  have f730 := Fw.keep Kg (ninS n_c_R (ninS n_c_F (ninS n_c_S nin0)))
  have f731 := Fm.keep Kg (ninS n_c_R (ninS n_c_F (ninS n_c_S nin0)))
  have f732 := FR.keep Kg (ninS n_c_R (ninS n_c_F (ninS n_c_S nin0)))
  have f733 := FF.keep Kg (ninS n_c_R (ninS n_c_F (ninS n_c_S nin0)))
  have f734 := FS.keep Kg (ninS n_c_R (ninS n_c_F (ninS n_c_S nin0)))
  have f735 := (Keep.refl h [R, F, S]).trans Kg (allS (Or.inl (List.mem_of_getElem? (i := 0) rfl)) (allS (Or.inl (List.mem_of_getElem? (i := 1) rfl)) (allS (Or.inl (List.mem_of_getElem? (i := 2) rfl)) all0)))
  have f736 := Ar.keep Kg (ninS nR (ninS nF (ninS nS nin0)))
  obtain ⟨qgc, qgR, qgF, qgS, qn_c_R, qn_c_F, qn_c_S, qn_R_F, qn_R_S, qn_F_S, qOv, qE0, qFw, qFm, qFR, qFF, qFS, qAR, qAF, qAS⟩ := Pg
  show G w _ h725 1 4 30 #[.val (.ref c), .val (.int (0 : Int32)), .val (.long x), .second, .val (.ref rg)] [(.ref g)]
  refine g_astore C (pc' := 32) (Ls' := #[.val (.ref c), .val (.int (0 : Int32)), .val (.long x), .second, .val (.ref g)]) d5_30 rfl rfl rfl rfl ?_
  refine g_aload C (pc' := 34) d5_32 rfl rfl rfl ?_
  refine g_aloadN C (pc' := 35) d5_34 rfl rfl rfl ?_
  refine g_aload C (pc' := 37) d5_35 rfl rfl rfl ?_
  refine g_iloadN C (pc' := 38) d5_37 rfl rfl ?_
  refine g_aloadN C (pc' := 39) d5_38 rfl rfl rfl ?_
  refine g_getF C (pc' := 42) (wd hw 24 rfl) Via.refl d5_39 rfl qFS rfl ?_
  refine g_iloadN C (pc' := 43) d5_42 rfl rfl ?_
  refine g_iaload C (pc' := 44) (x := (1 : Int32)) d5_43 rfl qAS (by decide) (by decide) rfl rfl ?_
  refine g_private C (pc' := 47) (k' := 1) (n' := 4) (argsL := [(.ref g), (.int (0 : Int32)), (.int (1 : Int32))]) (rest := [(.ref g)]) (wd hw 58 rfl) (wd hw 59 rfl) (wd hw 5 rfl) (wd hw 60 rfl) (wd hw 6 rfl) (wd hw 61 rfl) (by decide) d5_44 pd_9 rfl rfl rfl qE0 (start_0_2_1b l Z a0 hw n0 h725 f728 s_EMPTY H c R F S kR kF kS m f1 (1 : Int32) s1 (.ref g) r1 g kG y0 y1 (0 : Int64) (0 : Int64) Ag ⟨gc, gR, gF, gS, n_c_R, n_c_F, n_c_S, n_R_F, n_R_S, n_F_S, Ov, qE0, qFw, qFm, qFR, qFF, qFS, qAR, qAF, qAS⟩) (Nat.le_of_ble_eq_true rfl) (Nat.le_of_ble_eq_true rfl) (Nat.le_of_ble_eq_true rfl) (Nat.le_of_ble_eq_true rfl) rfl rfl rfl (fun v738 h737 q739 => ?_)
  obtain ⟨rfl, eh737⟩ := q739
  subst h737
  show G w _ h725 1 4 47 #[.val (.ref c), .val (.int (0 : Int32)), .val (.long x), .second, .val (.ref g)] [(.int (2 : Int32)), (.ref g)]
  refine g_lloadN C (pc' := 48) d5_47 rfl rfl ?_
  refine g_lastore C (pc' := 49) d5_48 rfl Ag (by decide) (by decide) ge_g rfl (fun h740 W741 => ?_)
  have f742 := f728.wr W741 ge_g
  have f743 := qE0.wr W741
  have f744 := f735.wr W741 (Or.inr sz_g)
  have f745 := f736.other W741 ne_rg_g
  have f746 := qFw.other W741 (Or.inl ne_c_g)
  have f747 := qFm.other W741 (Or.inl ne_c_g)
  have f748 := qFR.other W741 (Or.inl ne_c_g)
  have f749 := qFF.other W741 (Or.inl ne_c_g)
  have f750 := qFS.other W741 (Or.inl ne_c_g)
  have f751 := qAR.other W741 ne_R_g
  have f752 := qAF.other W741 ne_F_g
  have f753 := qAS.other W741 ne_S_g
  have f754 := (arv_put Ag rfl W741 (i := 2) rfl (Nat.le_of_ble_eq_true rfl) : Arv Z h740 g kG .long (4 : Int32) [(.long y0), (.long y1), (.long x), (.long (0 : Int64))] (.long (0 : Int64)))
  refine g_aloadN C (pc' := 50) d5_49 rfl rfl rfl ?_
  refine g_getF C (pc' := 53) (wd hw 24 rfl) Via.refl d5_50 rfl f750 rfl ?_
  refine g_iloadN C (pc' := 54) d5_53 rfl rfl ?_
  refine g_dup2 C (pc' := 55) d5_54 rfl rfl rfl rfl ?_
  refine g_iaload C (pc' := 56) (x := (1 : Int32)) d5_55 rfl f753 (by decide) (by decide) rfl rfl ?_
  refine g_iconst C (pc' := 57) (v := (1 : Int32)) d5_56 (by decide) rfl ?_
  refine g_iadd C (pc' := 58) d5_57 rfl rfl ?_
  rw [show ((1 : Int32) + (1 : Int32)) = (2 : Int32) from by decide]
  refine g_iastore C (pc' := 59) d5_58 rfl f753 (by decide) (by decide) gS rfl (fun h755 W756 => ?_)
  have f757 := f742.wr W756 gS
  have f758 := f743.wr W756
  have f759 := f744.wr W756 (Or.inl (List.mem_of_getElem? (i := 2) rfl))
  have f760 := f745.other W756 nS
  have f761 := f746.other W756 (Or.inl n_c_S)
  have f762 := f747.other W756 (Or.inl n_c_S)
  have f763 := f748.other W756 (Or.inl n_c_S)
  have f764 := f749.other W756 (Or.inl n_c_S)
  have f765 := f750.other W756 (Or.inl n_c_S)
  have f766 := f751.other W756 n_R_S
  have f767 := f752.other W756 n_F_S
  have f768 := (arv_put f753 rfl W756 (i := 0) rfl (Nat.le_of_ble_eq_true rfl) : Arv Z h755 S kS .int (2 : Int32) [(.int (2 : Int32)), (.int s1)] (.int (0 : Int32)))
  have f769 := f754.other W756 (Ne.symm ne_S_g)
  exact g_return C d5_59 rfl (Nat.le_of_ble_eq_true rfl) (Nat.le_of_ble_eq_true rfl) (⟨rfl, g, kG, sz_g, f759, f769, ⟨gc, gR, gF, gS, n_c_R, n_c_F, n_c_S, n_R_F, n_R_S, n_F_S, Ov, f758, f761, f762, f763, f764, f765, f766, f767, f768⟩⟩)
set_option maxRecDepth 65536 in
set_option maxHeartbeats 40000000 in
theorem get_0_2 (l : Launch) (Z : State) (a0 : Array Value) (hw : ∀ d ∈ tables_1, d.before a0 Z = true) (n0 : Nat) (h : Heap) (O : Old Z n0 h) (s_EMPTY : Addr) (H : En Z s_EMPTY) (c R F S : Addr) (kR kF kS : ClassId) (m f1 s0 s1 : Int32) (r1 : Value) (rg : Addr) (kJ : ClassId) (y0 y1 : Int64) (Ar : Arv Z h rg kJ .long (2 : Int32) [(.long y0), (.long y1)] (.long (0 : Int64))) (P : RC Z n0 h c R F S kR kF kS (2 : Int32) m (.ref rg) r1 (0 : Int32) f1 s0 s1) : Con l Z (⟨"com/example/request_throttle/requestthrottle/RingColumn", "get", "(III)J"⟩ : MethodName) prog_17_method_4_code 5 (some .long) ({ frames := 1, cells := 0, slots := 0, locals := 17 } : Room) #[(.ref c), (.int (0 : Int32)), (.int (0 : Int32)), (.int (0 : Int32))] h n0 (fun r h' => r = some (.long y0) ∧ h' = h) := by
  refine Con.mk (Ls := #[.val (.ref c), .val (.int (0 : Int32)), .val (.int (0 : Int32)), .val (.int (0 : Int32)), .unset]) (plainFor_of_name pn_0) (fun m => by first | (simp [entryFrame, mkF, argsToLocals, Value.category]; done) | rfl) (fun w C => ?_)
  replace C : Cx w l Z "com/example/request_throttle/requestthrottle/RingColumn" prog_17_method_4_code 5 (some .long) "get" ({ frames := 1, cells := 0, slots := 0, locals := 17 } : Room) n0 := C
  obtain ⟨S_EMPTY, E_EMPTY, V_EMPTY⟩ := id H
  obtain ⟨kE, V_EMPTY⟩ := V_EMPTY
  obtain ⟨gc, gR, gF, gS, n_c_R, n_c_F, n_c_S, n_R_F, n_R_S, n_F_S, Ov, E0, Fw, Fm, FR, FF, FS, AR, AF, AS⟩ := P
  refine g_aloadN C (pc' := 1) d12_0 rfl rfl rfl ?_
  refine g_getF C (pc' := 4) (wd hw 19 rfl) Via.refl d12_1 rfl FR rfl ?_
  refine g_iloadN C (pc' := 5) d12_4 rfl rfl ?_
  refine g_aaload C (pc' := 6) (x := (.ref rg)) d12_5 rfl AR rfl (by decide) (by decide) rfl rfl ?_
  refine g_astore C (pc' := 8) (Ls' := #[.val (.ref c), .val (.int (0 : Int32)), .val (.int (0 : Int32)), .val (.int (0 : Int32)), .val (.ref rg)]) d12_6 rfl rfl rfl rfl ?_
  refine g_aload C (pc' := 10) d12_8 rfl rfl rfl ?_
  refine g_aloadN C (pc' := 11) d12_10 rfl rfl rfl ?_
  refine g_aload C (pc' := 13) d12_11 rfl rfl rfl ?_
  refine g_iloadN C (pc' := 14) d12_13 rfl rfl ?_
  refine g_iloadN C (pc' := 15) d12_14 rfl rfl ?_
  refine g_private C (pc' := 18) (k' := 0) (n' := 0) (argsL := [(.ref rg), (.int (0 : Int32)), (.int (0 : Int32))]) (rest := [(.ref rg)]) (wd hw 58 rfl) (wd hw 59 rfl) (wd hw 5 rfl) (wd hw 60 rfl) (wd hw 6 rfl) (wd hw 61 rfl) (by decide) d12_15 pd_9 rfl rfl rfl E0 (start_0_2_0 l Z a0 hw n0 h O s_EMPTY H c R F S kR kF kS m f1 s0 s1 (.ref rg) r1 rg kJ y0 y1 Ar ⟨gc, gR, gF, gS, n_c_R, n_c_F, n_c_S, n_R_F, n_R_S, n_F_S, Ov, E0, Fw, Fm, FR, FF, FS, AR, AF, AS⟩) (Nat.le_of_ble_eq_true rfl) (Nat.le_of_ble_eq_true rfl) (Nat.le_of_ble_eq_true rfl) (Nat.le_of_ble_eq_true rfl) rfl rfl rfl (fun v771 h770 q772 => ?_)
  obtain ⟨rfl, eh770⟩ := q772
  subst h770
  show G w _ h 0 0 18 #[.val (.ref c), .val (.int (0 : Int32)), .val (.int (0 : Int32)), .val (.int (0 : Int32)), .val (.ref rg)] [(.int (0 : Int32)), (.ref rg)]
  refine g_iloadN C (pc' := 19) d12_18 rfl rfl ?_
  refine g_iadd C (pc' := 20) d12_19 rfl rfl ?_
  rw [show ((0 : Int32) + (0 : Int32)) = (0 : Int32) from by decide]
  refine g_laload C (pc' := 21) (x := y0) d12_20 rfl Ar (by decide) (by decide) rfl rfl ?_
  exact g_lreturn C d12_21 rfl (Nat.le_of_ble_eq_true rfl) (Nat.le_of_ble_eq_true rfl) (⟨rfl, rfl⟩)
set_option maxRecDepth 65536 in
set_option maxHeartbeats 40000000 in
theorem rem1_0_2 (l : Launch) (Z : State) (a0 : Array Value) (hw : ∀ d ∈ tables_1, d.before a0 Z = true) (n0 : Nat) (h : Heap) (O : Old Z n0 h) (s_EMPTY : Addr) (H : En Z s_EMPTY) (c R F S : Addr) (kR kF kS : ClassId) (m f1 s1 : Int32) (r1 : Value) (rg : Addr) (kJ : ClassId) (y0 y1 : Int64) (Ar : Arv Z h rg kJ .long (2 : Int32) [(.long y0), (.long y1)] (.long (0 : Int64))) (nR : rg ≠ R) (nF : rg ≠ F) (nS : rg ≠ S) (P : RC Z n0 h c R F S kR kF kS (2 : Int32) m (.ref rg) r1 (0 : Int32) f1 (1 : Int32) s1) : Con l Z (⟨"com/example/request_throttle/requestthrottle/RingColumn", "removeFirst", "(I)V"⟩ : MethodName) prog_17_method_7_code 3 none ({ frames := 0, cells := 0, slots := 0, locals := 0 } : Room) #[(.ref c), (.int (0 : Int32))] h n0 (fun r h' => r = none ∧ Keep h h' [R, F, S] ∧ RC Z n0 h' c R F S kR kF kS (2 : Int32) m (.ref rg) r1 (0 : Int32) f1 (0 : Int32) s1) := by
  refine Con.mk (Ls := #[.val (.ref c), .val (.int (0 : Int32)), .unset]) (plainFor_of_name pn_0) (fun m => by first | (simp [entryFrame, mkF, argsToLocals, Value.category]; done) | rfl) (fun w C => ?_)
  replace C : Cx w l Z "com/example/request_throttle/requestthrottle/RingColumn" prog_17_method_7_code 3 none "removeFirst" ({ frames := 0, cells := 0, slots := 0, locals := 0 } : Room) n0 := C
  obtain ⟨S_EMPTY, E_EMPTY, V_EMPTY⟩ := id H
  obtain ⟨kE, V_EMPTY⟩ := V_EMPTY
  obtain ⟨gc, gR, gF, gS, n_c_R, n_c_F, n_c_S, n_R_F, n_R_S, n_F_S, Ov, E0, Fw, Fm, FR, FF, FS, AR, AF, AS⟩ := P
  refine g_aloadN C (pc' := 1) d13_0 rfl rfl rfl ?_
  refine g_getF C (pc' := 4) (wd hw 22 rfl) Via.refl d13_1 rfl FF rfl ?_
  refine g_iloadN C (pc' := 5) d13_4 rfl rfl ?_
  refine g_iaload C (pc' := 6) (x := (0 : Int32)) d13_5 rfl AF (by decide) (by decide) rfl rfl ?_
  refine g_aloadN C (pc' := 7) d13_6 rfl rfl rfl ?_
  refine g_getF C (pc' := 10) (wd hw 13 rfl) Via.refl d13_7 rfl Fw rfl ?_
  refine g_iadd C (pc' := 11) d13_10 rfl rfl ?_
  rw [show ((0 : Int32) + (2 : Int32)) = (2 : Int32) from by decide]
  refine g_istoreN C (pc' := 12) (Ls' := #[.val (.ref c), .val (.int (0 : Int32)), .val (.int (2 : Int32))]) d13_11 rfl rfl rfl ?_
  refine g_aloadN C (pc' := 13) d13_12 rfl rfl rfl ?_
  refine g_getF C (pc' := 16) (wd hw 22 rfl) Via.refl d13_13 rfl FF rfl ?_
  refine g_iloadN C (pc' := 17) d13_16 rfl rfl ?_
  refine g_iloadN C (pc' := 18) d13_17 rfl rfl ?_
  refine g_aloadN C (pc' := 19) d13_18 rfl rfl rfl ?_
  refine g_getF C (pc' := 22) (wd hw 19 rfl) Via.refl d13_19 rfl FR rfl ?_
  refine g_iloadN C (pc' := 23) d13_22 rfl rfl ?_
  refine g_aaload C (pc' := 24) (x := (.ref rg)) d13_23 rfl AR rfl (by decide) (by decide) rfl rfl ?_
  refine g_alen C (pc' := 25) d13_24 rfl Ar rfl ?_
  refine g_icN C (pc' := 28) d13_25 rfl (by decide) rfl ?_
  refine g_iconst C (pc' := 29) (v := (0 : Int32)) d13_28 (by decide) rfl ?_
  refine g_goto C (pc' := 33) d13_29 (by decide) rfl ?_
  refine g_iastore C (pc' := 34) d13_33 rfl AF (by decide) (by decide) gF rfl (fun h773 W774 => ?_)
  have f775 := O.wr W774 gF
  have f776 := E0.wr W774
  have f777 := Fw.other W774 (Or.inl n_c_F)
  have f778 := Fm.other W774 (Or.inl n_c_F)
  have f779 := FR.other W774 (Or.inl n_c_F)
  have f780 := FF.other W774 (Or.inl n_c_F)
  have f781 := FS.other W774 (Or.inl n_c_F)
  have f782 := AR.other W774 n_R_F
  have f783 := (arv_put AF rfl W774 (i := 0) rfl (Nat.le_of_ble_eq_true rfl) : Arv Z h773 F kF .int (2 : Int32) [(.int (0 : Int32)), (.int f1)] (.int (0 : Int32)))
  have f784 := AS.other W774 (Ne.symm n_F_S)
  have f785 := (Keep.refl h [R, F, S]).wr W774 (Or.inl (List.mem_of_getElem? (i := 1) rfl))
  have f786 := Ar.other W774 nF
  refine g_aloadN C (pc' := 35) d13_34 rfl rfl rfl ?_
  refine g_getF C (pc' := 38) (wd hw 24 rfl) Via.refl d13_35 rfl f781 rfl ?_
  refine g_iloadN C (pc' := 39) d13_38 rfl rfl ?_
  refine g_dup2 C (pc' := 40) d13_39 rfl rfl rfl rfl ?_
  refine g_iaload C (pc' := 41) (x := (1 : Int32)) d13_40 rfl f784 (by decide) (by decide) rfl rfl ?_
  refine g_iconst C (pc' := 42) (v := (1 : Int32)) d13_41 (by decide) rfl ?_
  refine g_isub C (pc' := 43) d13_42 rfl rfl ?_
  rw [show ((1 : Int32) - (1 : Int32)) = (0 : Int32) from by decide]
  refine g_iastore C (pc' := 44) d13_43 rfl f784 (by decide) (by decide) gS rfl (fun h787 W788 => ?_)
  have f789 := f775.wr W788 gS
  have f790 := f776.wr W788
  have f791 := f777.other W788 (Or.inl n_c_S)
  have f792 := f778.other W788 (Or.inl n_c_S)
  have f793 := f779.other W788 (Or.inl n_c_S)
  have f794 := f780.other W788 (Or.inl n_c_S)
  have f795 := f781.other W788 (Or.inl n_c_S)
  have f796 := f782.other W788 n_R_S
  have f797 := f783.other W788 n_F_S
  have f798 := (arv_put f784 rfl W788 (i := 0) rfl (Nat.le_of_ble_eq_true rfl) : Arv Z h787 S kS .int (2 : Int32) [(.int (0 : Int32)), (.int s1)] (.int (0 : Int32)))
  have f799 := f785.wr W788 (Or.inl (List.mem_of_getElem? (i := 2) rfl))
  have f800 := f786.other W788 nS
  exact g_return C d13_44 rfl (Nat.le_of_ble_eq_true rfl) (Nat.le_of_ble_eq_true rfl) (⟨rfl, f799, ⟨gc, gR, gF, gS, n_c_R, n_c_F, n_c_S, n_R_F, n_R_S, n_F_S, Ov, f790, f791, f792, f793, f794, f795, f796, f797, f798⟩⟩)
set_option maxRecDepth 65536 in
set_option maxHeartbeats 40000000 in
theorem rem2_0_2 (l : Launch) (Z : State) (a0 : Array Value) (hw : ∀ d ∈ tables_1, d.before a0 Z = true) (n0 : Nat) (h : Heap) (O : Old Z n0 h) (s_EMPTY : Addr) (H : En Z s_EMPTY) (c R F S : Addr) (kR kF kS : ClassId) (m f1 s1 : Int32) (r1 : Value) (rg : Addr) (kJ : ClassId) (y0 y1 y2 y3 : Int64) (Ar : Arv Z h rg kJ .long (4 : Int32) [(.long y0), (.long y1), (.long y2), (.long y3)] (.long (0 : Int64))) (nR : rg ≠ R) (nF : rg ≠ F) (nS : rg ≠ S) (P : RC Z n0 h c R F S kR kF kS (2 : Int32) m (.ref rg) r1 (0 : Int32) f1 (2 : Int32) s1) : Con l Z (⟨"com/example/request_throttle/requestthrottle/RingColumn", "removeFirst", "(I)V"⟩ : MethodName) prog_17_method_7_code 3 none ({ frames := 0, cells := 0, slots := 0, locals := 0 } : Room) #[(.ref c), (.int (0 : Int32))] h n0 (fun r h' => r = none ∧ Keep h h' [R, F, S] ∧ RC Z n0 h' c R F S kR kF kS (2 : Int32) m (.ref rg) r1 (2 : Int32) f1 (1 : Int32) s1) := by
  refine Con.mk (Ls := #[.val (.ref c), .val (.int (0 : Int32)), .unset]) (plainFor_of_name pn_0) (fun m => by first | (simp [entryFrame, mkF, argsToLocals, Value.category]; done) | rfl) (fun w C => ?_)
  replace C : Cx w l Z "com/example/request_throttle/requestthrottle/RingColumn" prog_17_method_7_code 3 none "removeFirst" ({ frames := 0, cells := 0, slots := 0, locals := 0 } : Room) n0 := C
  obtain ⟨S_EMPTY, E_EMPTY, V_EMPTY⟩ := id H
  obtain ⟨kE, V_EMPTY⟩ := V_EMPTY
  obtain ⟨gc, gR, gF, gS, n_c_R, n_c_F, n_c_S, n_R_F, n_R_S, n_F_S, Ov, E0, Fw, Fm, FR, FF, FS, AR, AF, AS⟩ := P
  refine g_aloadN C (pc' := 1) d13_0 rfl rfl rfl ?_
  refine g_getF C (pc' := 4) (wd hw 22 rfl) Via.refl d13_1 rfl FF rfl ?_
  refine g_iloadN C (pc' := 5) d13_4 rfl rfl ?_
  refine g_iaload C (pc' := 6) (x := (0 : Int32)) d13_5 rfl AF (by decide) (by decide) rfl rfl ?_
  refine g_aloadN C (pc' := 7) d13_6 rfl rfl rfl ?_
  refine g_getF C (pc' := 10) (wd hw 13 rfl) Via.refl d13_7 rfl Fw rfl ?_
  refine g_iadd C (pc' := 11) d13_10 rfl rfl ?_
  rw [show ((0 : Int32) + (2 : Int32)) = (2 : Int32) from by decide]
  refine g_istoreN C (pc' := 12) (Ls' := #[.val (.ref c), .val (.int (0 : Int32)), .val (.int (2 : Int32))]) d13_11 rfl rfl rfl ?_
  refine g_aloadN C (pc' := 13) d13_12 rfl rfl rfl ?_
  refine g_getF C (pc' := 16) (wd hw 22 rfl) Via.refl d13_13 rfl FF rfl ?_
  refine g_iloadN C (pc' := 17) d13_16 rfl rfl ?_
  refine g_iloadN C (pc' := 18) d13_17 rfl rfl ?_
  refine g_aloadN C (pc' := 19) d13_18 rfl rfl rfl ?_
  refine g_getF C (pc' := 22) (wd hw 19 rfl) Via.refl d13_19 rfl FR rfl ?_
  refine g_iloadN C (pc' := 23) d13_22 rfl rfl ?_
  refine g_aaload C (pc' := 24) (x := (.ref rg)) d13_23 rfl AR rfl (by decide) (by decide) rfl rfl ?_
  refine g_alen C (pc' := 25) d13_24 rfl Ar rfl ?_
  refine g_icY C (pc' := 32) d13_25 rfl (by decide) (by decide) rfl ?_
  refine g_iloadN C (pc' := 33) d13_32 rfl rfl ?_
  refine g_iastore C (pc' := 34) d13_33 rfl AF (by decide) (by decide) gF rfl (fun h801 W802 => ?_)
  have f803 := O.wr W802 gF
  have f804 := E0.wr W802
  have f805 := Fw.other W802 (Or.inl n_c_F)
  have f806 := Fm.other W802 (Or.inl n_c_F)
  have f807 := FR.other W802 (Or.inl n_c_F)
  have f808 := FF.other W802 (Or.inl n_c_F)
  have f809 := FS.other W802 (Or.inl n_c_F)
  have f810 := AR.other W802 n_R_F
  have f811 := (arv_put AF rfl W802 (i := 0) rfl (Nat.le_of_ble_eq_true rfl) : Arv Z h801 F kF .int (2 : Int32) [(.int (2 : Int32)), (.int f1)] (.int (0 : Int32)))
  have f812 := AS.other W802 (Ne.symm n_F_S)
  have f813 := (Keep.refl h [R, F, S]).wr W802 (Or.inl (List.mem_of_getElem? (i := 1) rfl))
  have f814 := Ar.other W802 nF
  refine g_aloadN C (pc' := 35) d13_34 rfl rfl rfl ?_
  refine g_getF C (pc' := 38) (wd hw 24 rfl) Via.refl d13_35 rfl f809 rfl ?_
  refine g_iloadN C (pc' := 39) d13_38 rfl rfl ?_
  refine g_dup2 C (pc' := 40) d13_39 rfl rfl rfl rfl ?_
  refine g_iaload C (pc' := 41) (x := (2 : Int32)) d13_40 rfl f812 (by decide) (by decide) rfl rfl ?_
  refine g_iconst C (pc' := 42) (v := (1 : Int32)) d13_41 (by decide) rfl ?_
  refine g_isub C (pc' := 43) d13_42 rfl rfl ?_
  rw [show ((2 : Int32) - (1 : Int32)) = (1 : Int32) from by decide]
  refine g_iastore C (pc' := 44) d13_43 rfl f812 (by decide) (by decide) gS rfl (fun h815 W816 => ?_)
  have f817 := f803.wr W816 gS
  have f818 := f804.wr W816
  have f819 := f805.other W816 (Or.inl n_c_S)
  have f820 := f806.other W816 (Or.inl n_c_S)
  have f821 := f807.other W816 (Or.inl n_c_S)
  have f822 := f808.other W816 (Or.inl n_c_S)
  have f823 := f809.other W816 (Or.inl n_c_S)
  have f824 := f810.other W816 n_R_S
  have f825 := f811.other W816 n_F_S
  have f826 := (arv_put f812 rfl W816 (i := 0) rfl (Nat.le_of_ble_eq_true rfl) : Arv Z h815 S kS .int (2 : Int32) [(.int (1 : Int32)), (.int s1)] (.int (0 : Int32)))
  have f827 := f813.wr W816 (Or.inl (List.mem_of_getElem? (i := 2) rfl))
  have f828 := f814.other W816 nS
  exact g_return C d13_44 rfl (Nat.le_of_ble_eq_true rfl) (Nat.le_of_ble_eq_true rfl) (⟨rfl, f827, ⟨gc, gR, gF, gS, n_c_R, n_c_F, n_c_S, n_R_F, n_R_S, n_F_S, Ov, f818, f819, f820, f821, f822, f823, f824, f825, f826⟩⟩)
set_option maxRecDepth 65536 in
set_option maxHeartbeats 40000000 in
theorem clear_1 (l : Launch) (Z : State) (a0 : Array Value) (hw : ∀ d ∈ tables_1, d.before a0 Z = true) (n0 : Nat) (h : Heap) (O : Old Z n0 h) (s_EMPTY : Addr) (H : En Z s_EMPTY) (c R F S : Addr) (kR kF kS : ClassId) (w m f0 f1 s0 s1 : Int32) (r0 r1 : Value) (P : RC Z n0 h c R F S kR kF kS w m r0 r1 f0 f1 s0 s1) : Con l Z (⟨"com/example/request_throttle/requestthrottle/RingColumn", "clear", "(I)V"⟩ : MethodName) prog_17_method_2_code 2 none ({ frames := 0, cells := 0, slots := 0, locals := 0 } : Room) #[(.ref c), (.int (1 : Int32))] h n0 (fun r h' => r = none ∧ Keep h h' [R, F, S] ∧ RC Z n0 h' c R F S kR kF kS w m r0 (.ref s_EMPTY) f0 (0 : Int32) s0 (0 : Int32)) := by
  refine Con.mk (Ls := #[.val (.ref c), .val (.int (1 : Int32))]) (plainFor_of_name pn_0) (fun m => by first | (simp [entryFrame, mkF, argsToLocals, Value.category]; done) | rfl) (fun w C => ?_)
  replace C : Cx w l Z "com/example/request_throttle/requestthrottle/RingColumn" prog_17_method_2_code 2 none "clear" ({ frames := 0, cells := 0, slots := 0, locals := 0 } : Room) n0 := C
  obtain ⟨S_EMPTY, E_EMPTY, V_EMPTY⟩ := id H
  obtain ⟨kE, V_EMPTY⟩ := V_EMPTY
  obtain ⟨gc, gR, gF, gS, n_c_R, n_c_F, n_c_S, n_R_F, n_R_S, n_F_S, Ov, E0, Fw, Fm, FR, FF, FS, AR, AF, AS⟩ := P
  refine g_aloadN C (pc' := 1) d4_0 rfl rfl rfl ?_
  refine g_getF C (pc' := 4) (wd hw 19 rfl) Via.refl d4_1 rfl FR rfl ?_
  refine g_iloadN C (pc' := 5) d4_4 rfl rfl ?_
  refine g_getS C (pc' := 8) (wd hw 31 rfl) Via.refl d4_5 (S_EMPTY.ext O.2) rfl ?_
  refine g_aastore C (pc' := 9) d4_8 rfl AR rfl (stoA AR Ov (E_EMPTY.ext O.2)) (by decide) (by decide) gR rfl (fun h829 W830 => ?_)
  have f831 := O.wr W830 gR
  have f832 := E0.wr W830
  have f833 := Fw.other W830 (Or.inl n_c_R)
  have f834 := Fm.other W830 (Or.inl n_c_R)
  have f835 := FR.other W830 (Or.inl n_c_R)
  have f836 := FF.other W830 (Or.inl n_c_R)
  have f837 := FS.other W830 (Or.inl n_c_R)
  have f838 := (arv_put AR rfl W830 (i := 1) rfl (Nat.le_of_ble_eq_true rfl) : Arv Z h829 R kR (.array .long) (2 : Int32) [r0, (.ref s_EMPTY)] .null)
  have f839 := AF.other W830 (Ne.symm n_R_F)
  have f840 := AS.other W830 (Ne.symm n_R_S)
  have f841 := (Keep.refl h [R, F, S]).wr W830 (Or.inl (List.mem_of_getElem? (i := 0) rfl))
  refine g_aloadN C (pc' := 10) d4_9 rfl rfl rfl ?_
  refine g_getF C (pc' := 13) (wd hw 22 rfl) Via.refl d4_10 rfl f836 rfl ?_
  refine g_iloadN C (pc' := 14) d4_13 rfl rfl ?_
  refine g_iconst C (pc' := 15) (v := (0 : Int32)) d4_14 (by decide) rfl ?_
  refine g_iastore C (pc' := 16) d4_15 rfl f839 (by decide) (by decide) gF rfl (fun h842 W843 => ?_)
  have f844 := f831.wr W843 gF
  have f845 := f832.wr W843
  have f846 := f833.other W843 (Or.inl n_c_F)
  have f847 := f834.other W843 (Or.inl n_c_F)
  have f848 := f835.other W843 (Or.inl n_c_F)
  have f849 := f836.other W843 (Or.inl n_c_F)
  have f850 := f837.other W843 (Or.inl n_c_F)
  have f851 := f838.other W843 n_R_F
  have f852 := (arv_put f839 rfl W843 (i := 1) rfl (Nat.le_of_ble_eq_true rfl) : Arv Z h842 F kF .int (2 : Int32) [(.int f0), (.int (0 : Int32))] (.int (0 : Int32)))
  have f853 := f840.other W843 (Ne.symm n_F_S)
  have f854 := f841.wr W843 (Or.inl (List.mem_of_getElem? (i := 1) rfl))
  refine g_aloadN C (pc' := 17) d4_16 rfl rfl rfl ?_
  refine g_getF C (pc' := 20) (wd hw 24 rfl) Via.refl d4_17 rfl f850 rfl ?_
  refine g_iloadN C (pc' := 21) d4_20 rfl rfl ?_
  refine g_iconst C (pc' := 22) (v := (0 : Int32)) d4_21 (by decide) rfl ?_
  refine g_iastore C (pc' := 23) d4_22 rfl f853 (by decide) (by decide) gS rfl (fun h855 W856 => ?_)
  have f857 := f844.wr W856 gS
  have f858 := f845.wr W856
  have f859 := f846.other W856 (Or.inl n_c_S)
  have f860 := f847.other W856 (Or.inl n_c_S)
  have f861 := f848.other W856 (Or.inl n_c_S)
  have f862 := f849.other W856 (Or.inl n_c_S)
  have f863 := f850.other W856 (Or.inl n_c_S)
  have f864 := f851.other W856 n_R_S
  have f865 := f852.other W856 n_F_S
  have f866 := (arv_put f853 rfl W856 (i := 1) rfl (Nat.le_of_ble_eq_true rfl) : Arv Z h855 S kS .int (2 : Int32) [(.int s0), (.int (0 : Int32))] (.int (0 : Int32)))
  have f867 := f854.wr W856 (Or.inl (List.mem_of_getElem? (i := 2) rfl))
  exact g_return C d4_23 rfl (Nat.le_of_ble_eq_true rfl) (Nat.le_of_ble_eq_true rfl) (⟨rfl, f867, ⟨gc, gR, gF, gS, n_c_R, n_c_F, n_c_S, n_R_F, n_R_S, n_F_S, Ov, f858, f859, f860, f861, f862, f863, f864, f865, f866⟩⟩)
set_option maxRecDepth 65536 in
set_option maxHeartbeats 40000000 in
theorem size_1_0 (l : Launch) (Z : State) (a0 : Array Value) (hw : ∀ d ∈ tables_1, d.before a0 Z = true) (n0 : Nat) (h : Heap) (O : Old Z n0 h) (s_EMPTY : Addr) (H : En Z s_EMPTY) (c R F S : Addr) (kR kF kS : ClassId) (w m f0 f1 s0 : Int32) (r0 r1 : Value) (P : RC Z n0 h c R F S kR kF kS w m r0 r1 f0 f1 s0 (0 : Int32)) : Con l Z (⟨"com/example/request_throttle/requestthrottle/RingColumn", "size", "(I)I"⟩ : MethodName) prog_17_method_3_code 2 (some .int) ({ frames := 0, cells := 0, slots := 0, locals := 0 } : Room) #[(.ref c), (.int (1 : Int32))] h n0 (fun r h' => r = some (.int (0 : Int32)) ∧ h' = h) := by
  refine Con.mk (Ls := #[.val (.ref c), .val (.int (1 : Int32))]) (plainFor_of_name pn_0) (fun m => by first | (simp [entryFrame, mkF, argsToLocals, Value.category]; done) | rfl) (fun w C => ?_)
  replace C : Cx w l Z "com/example/request_throttle/requestthrottle/RingColumn" prog_17_method_3_code 2 (some .int) "size" ({ frames := 0, cells := 0, slots := 0, locals := 0 } : Room) n0 := C
  obtain ⟨S_EMPTY, E_EMPTY, V_EMPTY⟩ := id H
  obtain ⟨kE, V_EMPTY⟩ := V_EMPTY
  obtain ⟨gc, gR, gF, gS, n_c_R, n_c_F, n_c_S, n_R_F, n_R_S, n_F_S, Ov, E0, Fw, Fm, FR, FF, FS, AR, AF, AS⟩ := P
  refine g_aloadN C (pc' := 1) d11_0 rfl rfl rfl ?_
  refine g_getF C (pc' := 4) (wd hw 24 rfl) Via.refl d11_1 rfl FS rfl ?_
  refine g_iloadN C (pc' := 5) d11_4 rfl rfl ?_
  refine g_iaload C (pc' := 6) (x := (0 : Int32)) d11_5 rfl AS (by decide) (by decide) rfl rfl ?_
  exact g_ireturn C d11_6 rfl (Nat.le_of_ble_eq_true rfl) (Nat.le_of_ble_eq_true rfl) (⟨rfl, rfl⟩)
set_option maxRecDepth 65536 in
set_option maxHeartbeats 40000000 in
theorem size_1_1 (l : Launch) (Z : State) (a0 : Array Value) (hw : ∀ d ∈ tables_1, d.before a0 Z = true) (n0 : Nat) (h : Heap) (O : Old Z n0 h) (s_EMPTY : Addr) (H : En Z s_EMPTY) (c R F S : Addr) (kR kF kS : ClassId) (w m f0 f1 s0 : Int32) (r0 r1 : Value) (P : RC Z n0 h c R F S kR kF kS w m r0 r1 f0 f1 s0 (1 : Int32)) : Con l Z (⟨"com/example/request_throttle/requestthrottle/RingColumn", "size", "(I)I"⟩ : MethodName) prog_17_method_3_code 2 (some .int) ({ frames := 0, cells := 0, slots := 0, locals := 0 } : Room) #[(.ref c), (.int (1 : Int32))] h n0 (fun r h' => r = some (.int (1 : Int32)) ∧ h' = h) := by
  refine Con.mk (Ls := #[.val (.ref c), .val (.int (1 : Int32))]) (plainFor_of_name pn_0) (fun m => by first | (simp [entryFrame, mkF, argsToLocals, Value.category]; done) | rfl) (fun w C => ?_)
  replace C : Cx w l Z "com/example/request_throttle/requestthrottle/RingColumn" prog_17_method_3_code 2 (some .int) "size" ({ frames := 0, cells := 0, slots := 0, locals := 0 } : Room) n0 := C
  obtain ⟨S_EMPTY, E_EMPTY, V_EMPTY⟩ := id H
  obtain ⟨kE, V_EMPTY⟩ := V_EMPTY
  obtain ⟨gc, gR, gF, gS, n_c_R, n_c_F, n_c_S, n_R_F, n_R_S, n_F_S, Ov, E0, Fw, Fm, FR, FF, FS, AR, AF, AS⟩ := P
  refine g_aloadN C (pc' := 1) d11_0 rfl rfl rfl ?_
  refine g_getF C (pc' := 4) (wd hw 24 rfl) Via.refl d11_1 rfl FS rfl ?_
  refine g_iloadN C (pc' := 5) d11_4 rfl rfl ?_
  refine g_iaload C (pc' := 6) (x := (1 : Int32)) d11_5 rfl AS (by decide) (by decide) rfl rfl ?_
  exact g_ireturn C d11_6 rfl (Nat.le_of_ble_eq_true rfl) (Nat.le_of_ble_eq_true rfl) (⟨rfl, rfl⟩)
set_option maxRecDepth 65536 in
set_option maxHeartbeats 40000000 in
theorem start_1_1_0 (l : Launch) (Z : State) (a0 : Array Value) (hw : ∀ d ∈ tables_1, d.before a0 Z = true) (n0 : Nat) (h : Heap) (O : Old Z n0 h) (s_EMPTY : Addr) (H : En Z s_EMPTY) (c R F S : Addr) (kR kF kS : ClassId) (m f0 s0 s1 : Int32) (r0 r1 : Value) (rg : Addr) (kJ : ClassId) (y0 : Int64) (Ar : Arv Z h rg kJ .long (1 : Int32) [(.long y0)] (.long (0 : Int64))) (P : RC Z n0 h c R F S kR kF kS (1 : Int32) m r0 r1 f0 (0 : Int32) s0 s1) : Con l Z (⟨"com/example/request_throttle/requestthrottle/RingColumn", "start", "([JII)I"⟩ : MethodName) prog_17_method_9_code 5 (some .int) ({ frames := 0, cells := 0, slots := 0, locals := 0 } : Room) #[(.ref c), (.ref rg), (.int (1 : Int32)), (.int (0 : Int32))] h n0 (fun r h' => r = some (.int (0 : Int32)) ∧ h' = h) := by
  refine Con.mk (Ls := #[.val (.ref c), .val (.ref rg), .val (.int (1 : Int32)), .val (.int (0 : Int32)), .unset]) (plainFor_of_name pn_0) (fun m => by first | (simp [entryFrame, mkF, argsToLocals, Value.category]; done) | rfl) (fun w C => ?_)
  replace C : Cx w l Z "com/example/request_throttle/requestthrottle/RingColumn" prog_17_method_9_code 5 (some .int) "start" ({ frames := 0, cells := 0, slots := 0, locals := 0 } : Room) n0 := C
  obtain ⟨S_EMPTY, E_EMPTY, V_EMPTY⟩ := id H
  obtain ⟨kE, V_EMPTY⟩ := V_EMPTY
  obtain ⟨gc, gR, gF, gS, n_c_R, n_c_F, n_c_S, n_R_F, n_R_S, n_F_S, Ov, E0, Fw, Fm, FR, FF, FS, AR, AF, AS⟩ := P
  refine g_aloadN C (pc' := 1) d10_0 rfl rfl rfl ?_
  refine g_getF C (pc' := 4) (wd hw 22 rfl) Via.refl d10_1 rfl FF rfl ?_
  refine g_iloadN C (pc' := 5) d10_4 rfl rfl ?_
  refine g_iaload C (pc' := 6) (x := (0 : Int32)) d10_5 rfl AF (by decide) (by decide) rfl rfl ?_
  refine g_iloadN C (pc' := 7) d10_6 rfl rfl ?_
  refine g_aloadN C (pc' := 8) d10_7 rfl rfl rfl ?_
  refine g_getF C (pc' := 11) (wd hw 13 rfl) Via.refl d10_8 rfl Fw rfl ?_
  refine g_imul C (pc' := 12) d10_11 rfl rfl ?_
  rw [show ((0 : Int32) * (1 : Int32)) = (0 : Int32) from by decide]
  refine g_iadd C (pc' := 13) d10_12 rfl rfl ?_
  rw [show ((0 : Int32) + (0 : Int32)) = (0 : Int32) from by decide]
  refine g_istore C (pc' := 15) (Ls' := #[.val (.ref c), .val (.ref rg), .val (.int (1 : Int32)), .val (.int (0 : Int32)), .val (.int (0 : Int32))]) d10_13 rfl rfl rfl ?_
  refine g_iload C (pc' := 17) d10_15 rfl rfl ?_
  refine g_aloadN C (pc' := 18) d10_17 rfl rfl rfl ?_
  refine g_alen C (pc' := 19) d10_18 rfl Ar rfl ?_
  refine g_icN C (pc' := 22) d10_19 rfl (by decide) rfl ?_
  refine g_iload C (pc' := 24) d10_22 rfl rfl ?_
  refine g_goto C (pc' := 32) d10_24 (by decide) rfl ?_
  exact g_ireturn C d10_32 rfl (Nat.le_of_ble_eq_true rfl) (Nat.le_of_ble_eq_true rfl) (⟨rfl, rfl⟩)
set_option maxRecDepth 65536 in
set_option maxHeartbeats 40000000 in
theorem start_1_1_1b (l : Launch) (Z : State) (a0 : Array Value) (hw : ∀ d ∈ tables_1, d.before a0 Z = true) (n0 : Nat) (h : Heap) (O : Old Z n0 h) (s_EMPTY : Addr) (H : En Z s_EMPTY) (c R F S : Addr) (kR kF kS : ClassId) (m f0 s0 s1 : Int32) (r0 r1 : Value) (rg : Addr) (kJ : ClassId) (y0 y1 : Int64) (Ar : Arv Z h rg kJ .long (2 : Int32) [(.long y0), (.long y1)] (.long (0 : Int64))) (P : RC Z n0 h c R F S kR kF kS (1 : Int32) m r0 r1 f0 (0 : Int32) s0 s1) : Con l Z (⟨"com/example/request_throttle/requestthrottle/RingColumn", "start", "([JII)I"⟩ : MethodName) prog_17_method_9_code 5 (some .int) ({ frames := 0, cells := 0, slots := 0, locals := 0 } : Room) #[(.ref c), (.ref rg), (.int (1 : Int32)), (.int (1 : Int32))] h n0 (fun r h' => r = some (.int (1 : Int32)) ∧ h' = h) := by
  refine Con.mk (Ls := #[.val (.ref c), .val (.ref rg), .val (.int (1 : Int32)), .val (.int (1 : Int32)), .unset]) (plainFor_of_name pn_0) (fun m => by first | (simp [entryFrame, mkF, argsToLocals, Value.category]; done) | rfl) (fun w C => ?_)
  replace C : Cx w l Z "com/example/request_throttle/requestthrottle/RingColumn" prog_17_method_9_code 5 (some .int) "start" ({ frames := 0, cells := 0, slots := 0, locals := 0 } : Room) n0 := C
  obtain ⟨S_EMPTY, E_EMPTY, V_EMPTY⟩ := id H
  obtain ⟨kE, V_EMPTY⟩ := V_EMPTY
  obtain ⟨gc, gR, gF, gS, n_c_R, n_c_F, n_c_S, n_R_F, n_R_S, n_F_S, Ov, E0, Fw, Fm, FR, FF, FS, AR, AF, AS⟩ := P
  refine g_aloadN C (pc' := 1) d10_0 rfl rfl rfl ?_
  refine g_getF C (pc' := 4) (wd hw 22 rfl) Via.refl d10_1 rfl FF rfl ?_
  refine g_iloadN C (pc' := 5) d10_4 rfl rfl ?_
  refine g_iaload C (pc' := 6) (x := (0 : Int32)) d10_5 rfl AF (by decide) (by decide) rfl rfl ?_
  refine g_iloadN C (pc' := 7) d10_6 rfl rfl ?_
  refine g_aloadN C (pc' := 8) d10_7 rfl rfl rfl ?_
  refine g_getF C (pc' := 11) (wd hw 13 rfl) Via.refl d10_8 rfl Fw rfl ?_
  refine g_imul C (pc' := 12) d10_11 rfl rfl ?_
  rw [show ((1 : Int32) * (1 : Int32)) = (1 : Int32) from by decide]
  refine g_iadd C (pc' := 13) d10_12 rfl rfl ?_
  rw [show ((0 : Int32) + (1 : Int32)) = (1 : Int32) from by decide]
  refine g_istore C (pc' := 15) (Ls' := #[.val (.ref c), .val (.ref rg), .val (.int (1 : Int32)), .val (.int (1 : Int32)), .val (.int (1 : Int32))]) d10_13 rfl rfl rfl ?_
  refine g_iload C (pc' := 17) d10_15 rfl rfl ?_
  refine g_aloadN C (pc' := 18) d10_17 rfl rfl rfl ?_
  refine g_alen C (pc' := 19) d10_18 rfl Ar rfl ?_
  refine g_icN C (pc' := 22) d10_19 rfl (by decide) rfl ?_
  refine g_iload C (pc' := 24) d10_22 rfl rfl ?_
  refine g_goto C (pc' := 32) d10_24 (by decide) rfl ?_
  exact g_ireturn C d10_32 rfl (Nat.le_of_ble_eq_true rfl) (Nat.le_of_ble_eq_true rfl) (⟨rfl, rfl⟩)
set_option maxRecDepth 65536 in
set_option maxHeartbeats 40000000 in
theorem grow0_1_1 (l : Launch) (Z : State) (a0 : Array Value) (hw : ∀ d ∈ tables_1, d.before a0 Z = true) (n0 : Nat) (h : Heap) (O : Old Z n0 h) (s_EMPTY : Addr) (H : En Z s_EMPTY) (c R F S : Addr) (kR kF kS : ClassId) (m f0 s0 : Int32) (r0 : Value) (hm : ¬ m.toInt64 < (1 : Int64)) (P : RC Z n0 h c R F S kR kF kS (1 : Int32) m r0 (.ref s_EMPTY) f0 (0 : Int32) s0 (0 : Int32)) : Con l Z (⟨"com/example/request_throttle/requestthrottle/RingColumn", "grow", "(I)[J"⟩ : MethodName) prog_17_method_10_code 7 (some (.array .long)) ({ frames := 1, cells := 1, slots := 1, locals := 18 } : Room) #[(.ref c), (.int (1 : Int32))] h n0 (fun r h' => ∃ g kJ, r = some (.ref g) ∧ h.size ≤ g ∧ Keep h h' [R, F, S] ∧ Arv Z h' g kJ .long (1 : Int32) [(.long (0 : Int64))] (.long (0 : Int64)) ∧ RC Z n0 h' c R F S kR kF kS (1 : Int32) m r0 (.ref g) f0 (0 : Int32) s0 (0 : Int32)) := by
  refine Con.mk (Ls := #[.val (.ref c), .val (.int (1 : Int32)), .unset, .unset, .unset, .unset, .unset]) (plainFor_of_name pn_0) (fun m => by first | (simp [entryFrame, mkF, argsToLocals, Value.category]; done) | rfl) (fun w C => ?_)
  replace C : Cx w l Z "com/example/request_throttle/requestthrottle/RingColumn" prog_17_method_10_code 7 (some (.array .long)) "grow" ({ frames := 1, cells := 1, slots := 1, locals := 18 } : Room) n0 := C
  obtain ⟨S_EMPTY, E_EMPTY, V_EMPTY⟩ := id H
  obtain ⟨kE, V_EMPTY⟩ := V_EMPTY
  obtain ⟨gc, gR, gF, gS, n_c_R, n_c_F, n_c_S, n_R_F, n_R_S, n_F_S, Ov, E0, Fw, Fm, FR, FF, FS, AR, AF, AS⟩ := P
  refine g_aloadN C (pc' := 1) d6_0 rfl rfl rfl ?_
  refine g_getF C (pc' := 4) (wd hw 19 rfl) Via.refl d6_1 rfl FR rfl ?_
  refine g_iloadN C (pc' := 5) d6_4 rfl rfl ?_
  refine g_aaload C (pc' := 6) (x := (.ref s_EMPTY)) d6_5 rfl AR rfl (by decide) (by decide) rfl rfl ?_
  refine g_astoreN C (pc' := 7) (Ls' := #[.val (.ref c), .val (.int (1 : Int32)), .val (.ref s_EMPTY), .unset, .unset, .unset, .unset]) d6_6 rfl rfl rfl rfl ?_
  refine g_lconst C (pc' := 8) (v := (1 : Int64)) d6_7 (by decide) rfl ?_
  refine g_ldc2Long C (pc' := 11) (wd hw 43 rfl) d6_8 rfl ?_
  refine g_aloadN C (pc' := 12) d6_11 rfl rfl rfl ?_
  refine g_alen C (pc' := 13) d6_12 rfl (V_EMPTY.ext O.2) rfl ?_
  refine g_i2l C (pc' := 14) d6_13 rfl rfl ?_
  rw [show (0 : Int32).toInt64 = (0 : Int64) from by decide]
  refine g_lmul C (pc' := 15) d6_14 rfl rfl ?_
  rw [show ((2 : Int64) * (0 : Int64)) = (0 : Int64) from by decide]
  refine g_aloadN C (pc' := 16) d6_15 rfl rfl rfl ?_
  refine g_getF C (pc' := 19) (wd hw 13 rfl) Via.refl d6_16 rfl Fw rfl ?_
  refine g_i2l C (pc' := 20) d6_19 rfl rfl ?_
  rw [show (1 : Int32).toInt64 = (1 : Int64) from by decide]
  refine g_ldiv C (pc' := 21) d6_20 rfl (by decide) rfl ?_
  rw [show ((0 : Int64) / (1 : Int64)) = (0 : Int64) from by decide]
  refine g_callS C (pc' := 24) (k' := 0) (n' := 0) (argsL := [(.long (1 : Int64)), (.long (0 : Int64))]) (rest := []) (wd hw 44 rfl) (wd hw 45 rfl) (wd hw 2 rfl) (wd hw 46 rfl) (by decide) d6_21 pd_6 rfl rfl rfl (max_1_0 l Z a0 hw n0 h O s_EMPTY H) (Nat.le_of_ble_eq_true rfl) (Nat.le_of_ble_eq_true rfl) (Nat.le_of_ble_eq_true rfl) (Nat.le_of_ble_eq_true rfl) rfl rfl rfl (fun v869 h868 q870 => ?_)
  obtain ⟨rfl, eh868⟩ := q870
  subst h868
  show G w _ h 0 0 24 #[.val (.ref c), .val (.int (1 : Int32)), .val (.ref s_EMPTY), .unset, .unset, .unset, .unset] [(.long (1 : Int64))]
  refine g_aloadN C (pc' := 25) d6_24 rfl rfl rfl ?_
  refine g_getF C (pc' := 28) (wd hw 15 rfl) Via.refl d6_25 rfl Fm rfl ?_
  refine g_i2l C (pc' := 29) d6_28 rfl rfl ?_
  refine g_callS C (pc' := 32) (k' := 0) (n' := 0) (argsL := [(.long (1 : Int64)), (.long m.toInt64)]) (rest := []) (wd hw 47 rfl) (wd hw 48 rfl) (wd hw 2 rfl) (wd hw 49 rfl) (by decide) d6_29 pd_6 rfl rfl rfl (min_1 l Z a0 hw n0 h O s_EMPTY H m hm) (Nat.le_of_ble_eq_true rfl) (Nat.le_of_ble_eq_true rfl) (Nat.le_of_ble_eq_true rfl) (Nat.le_of_ble_eq_true rfl) rfl rfl rfl (fun v872 h871 q873 => ?_)
  obtain ⟨rfl, eh871⟩ := q873
  subst h871
  show G w _ h 0 0 32 #[.val (.ref c), .val (.int (1 : Int32)), .val (.ref s_EMPTY), .unset, .unset, .unset, .unset] [(.long (1 : Int64))]
  refine g_lstoreN C (pc' := 33) (Ls' := #[.val (.ref c), .val (.int (1 : Int32)), .val (.ref s_EMPTY), .val (.long (1 : Int64)), .second, .unset, .unset]) d6_32 rfl rfl rfl ?_
  refine g_lloadN C (pc' := 34) d6_33 rfl rfl ?_
  refine g_aloadN C (pc' := 35) d6_34 rfl rfl rfl ?_
  refine g_getF C (pc' := 38) (wd hw 13 rfl) Via.refl d6_35 rfl Fw rfl ?_
  refine g_i2l C (pc' := 39) d6_38 rfl rfl ?_
  rw [show (1 : Int32).toInt64 = (1 : Int64) from by decide]
  refine g_lmul C (pc' := 40) d6_39 rfl rfl ?_
  rw [show ((1 : Int64) * (1 : Int64)) = (1 : Int64) from by decide]
  refine g_callS C (pc' := 43) (k' := 0) (n' := 0) (argsL := [(.long (1 : Int64))]) (rest := []) (wd hw 50 rfl) (wd hw 51 rfl) (wd hw 2 rfl) (wd hw 52 rfl) (by decide) d6_40 pd_7 rfl rfl rfl (tie_1 l Z a0 hw n0 h O s_EMPTY H) (Nat.le_of_ble_eq_true rfl) (Nat.le_of_ble_eq_true rfl) (Nat.le_of_ble_eq_true rfl) (Nat.le_of_ble_eq_true rfl) rfl rfl rfl (fun v875 h874 q876 => ?_)
  obtain ⟨rfl, eh874⟩ := q876
  subst h874
  show G w _ h 0 0 43 #[.val (.ref c), .val (.int (1 : Int32)), .val (.ref s_EMPTY), .val (.long (1 : Int64)), .second, .unset, .unset] [(.int (1 : Int32))]
  refine g_newPE C (pc' := 45) (k' := 1) (n' := 1) (cap := 1) (ad := "[J") (wd hw 53 rfl) (by decide) d6_43 rfl (by decide) (by decide) (by decide) (by decide) (by decide) rfl rfl rfl (fun h877 b878 kA879 ex880 E881 A882 B883 => ?_)
  have ne_c_b878 : c ≠ b878 := Nat.ne_of_lt (by rw [ex880]; exact E0.lt)
  have ne_R_b878 : R ≠ b878 := Nat.ne_of_lt (by rw [ex880]; exact AR.lt)
  have ne_F_b878 : F ≠ b878 := Nat.ne_of_lt (by rw [ex880]; exact AF.lt)
  have ne_S_b878 : S ≠ b878 := Nat.ne_of_lt (by rw [ex880]; exact AS.lt)
  have ne_s_EMPTY_b878 : s_EMPTY ≠ b878 := Nat.ne_of_lt (by rw [ex880]; exact (V_EMPTY.ext O.2).lt)
  have ge_b878 : n0 ≤ b878 := by rw [ex880]; exact O.1 ▸ O.2.1
  have sz_b878 : h.size ≤ b878 := by rw [ex880]; exact (Keep.refl h [R, F, S]).1
  have f884 := O.ext E881
  have f885 := E0.ext E881
  have f886 := Fw.ext E881
  have f887 := Fm.ext E881
  have f888 := FR.ext E881
  have f889 := FF.ext E881
  have f890 := FS.ext E881
  have f891 := AR.ext E881
  have f892 := AF.ext E881
  have f893 := AS.ext E881
  have f894 := (Keep.refl h [R, F, S]).ext E881
  have f895 := (V_EMPTY.ext O.2).ext E881
  have A896 : Arv Z h877 b878 kA879 .long (1 : Int32) [(.long (0 : Int64))] (.long (0 : Int64)) := A882.pad (pad_rep [] (.long (0 : Int64)) 1)
  refine g_astore C (pc' := 47) (Ls' := #[.val (.ref c), .val (.int (1 : Int32)), .val (.ref s_EMPTY), .val (.long (1 : Int64)), .second, .val (.ref b878), .unset]) d6_45 rfl rfl rfl rfl ?_
  refine g_aloadN C (pc' := 48) d6_47 rfl rfl rfl ?_
  refine g_getF C (pc' := 51) (wd hw 22 rfl) Via.refl d6_48 rfl f889 rfl ?_
  refine g_iloadN C (pc' := 52) d6_51 rfl rfl ?_
  refine g_iaload C (pc' := 53) (x := (0 : Int32)) d6_52 rfl f892 (by decide) (by decide) rfl rfl ?_
  refine g_istore C (pc' := 55) (Ls' := #[.val (.ref c), .val (.int (1 : Int32)), .val (.ref s_EMPTY), .val (.long (1 : Int64)), .second, .val (.ref b878), .val (.int (0 : Int32))]) d6_53 rfl rfl rfl ?_
  refine g_aloadN C (pc' := 56) d6_55 rfl rfl rfl ?_
  refine g_iload C (pc' := 58) d6_56 rfl rfl ?_
  refine g_aload C (pc' := 60) d6_58 rfl rfl rfl ?_
  refine g_iconst C (pc' := 61) (v := (0 : Int32)) d6_60 (by decide) rfl ?_
  refine g_aloadN C (pc' := 62) d6_61 rfl rfl rfl ?_
  refine g_alen C (pc' := 63) d6_62 rfl f895 rfl ?_
  refine g_iload C (pc' := 65) d6_63 rfl rfl ?_
  refine g_isub C (pc' := 66) d6_65 rfl rfl ?_
  rw [show ((0 : Int32) - (0 : Int32)) = (0 : Int32) from by decide]
  refine g_cpA C (pc' := 69) (us := []) (wd hw 54 rfl) (wd hw 57 rfl) (wd hw 55 rfl) (wd hw 56 rfl) d6_66 rfl rfl f895 A896 (Or.inl ⟨rfl, rfl⟩) (by decide) (by decide) (by decide) (Nat.le_of_ble_eq_true rfl) (Nat.le_of_ble_eq_true rfl) rfl (Nat.le_of_ble_eq_true rfl) ge_b878 (Nat.le_of_ble_eq_true rfl) (Nat.le_of_ble_eq_true rfl) rfl (fun h897 K898 A899 => ?_)
  have f900 := f884.keep K898 (allS ge_b878 all0)
  have f901 := f885.keep K898
  have f902 := f886.keep K898 (ninS ne_c_b878 nin0)
  have f903 := f887.keep K898 (ninS ne_c_b878 nin0)
  have f904 := f888.keep K898 (ninS ne_c_b878 nin0)
  have f905 := f889.keep K898 (ninS ne_c_b878 nin0)
  have f906 := f890.keep K898 (ninS ne_c_b878 nin0)
  have f907 := f891.keep K898 (ninS ne_R_b878 nin0)
  have f908 := f892.keep K898 (ninS ne_F_b878 nin0)
  have f909 := f893.keep K898 (ninS ne_S_b878 nin0)
  have f910 := f894.trans K898 (allS (Or.inr sz_b878) all0)
  have f911 := f895.keep K898 (ninS ne_s_EMPTY_b878 nin0)
  have f912 := B883.keep K898
  have A913 : Arv Z h897 b878 kA879 .long (1 : Int32) [(.long (0 : Int64))] (.long (0 : Int64)) := A899
  refine g_aloadN C (pc' := 70) d6_69 rfl rfl rfl ?_
  refine g_iconst C (pc' := 71) (v := (0 : Int32)) d6_70 (by decide) rfl ?_
  refine g_aload C (pc' := 73) d6_71 rfl rfl rfl ?_
  refine g_aloadN C (pc' := 74) d6_73 rfl rfl rfl ?_
  refine g_alen C (pc' := 75) d6_74 rfl f911 rfl ?_
  refine g_iload C (pc' := 77) d6_75 rfl rfl ?_
  refine g_isub C (pc' := 78) d6_77 rfl rfl ?_
  rw [show ((0 : Int32) - (0 : Int32)) = (0 : Int32) from by decide]
  refine g_iload C (pc' := 80) d6_78 rfl rfl ?_
  refine g_cpA C (pc' := 83) (us := []) (wd hw 54 rfl) (wd hw 57 rfl) (wd hw 55 rfl) (wd hw 56 rfl) d6_80 rfl rfl f911 A913 (Or.inl ⟨rfl, rfl⟩) (by decide) (by decide) (by decide) (Nat.le_of_ble_eq_true rfl) (Nat.le_of_ble_eq_true rfl) rfl (Nat.le_of_ble_eq_true rfl) ge_b878 (Nat.le_of_ble_eq_true rfl) (Nat.le_of_ble_eq_true rfl) rfl (fun h914 K915 A916 => ?_)
  have f917 := f900.keep K915 (allS ge_b878 all0)
  have f918 := f901.keep K915
  have f919 := f902.keep K915 (ninS ne_c_b878 nin0)
  have f920 := f903.keep K915 (ninS ne_c_b878 nin0)
  have f921 := f904.keep K915 (ninS ne_c_b878 nin0)
  have f922 := f905.keep K915 (ninS ne_c_b878 nin0)
  have f923 := f906.keep K915 (ninS ne_c_b878 nin0)
  have f924 := f907.keep K915 (ninS ne_R_b878 nin0)
  have f925 := f908.keep K915 (ninS ne_F_b878 nin0)
  have f926 := f909.keep K915 (ninS ne_S_b878 nin0)
  have f927 := f910.trans K915 (allS (Or.inr sz_b878) all0)
  have f928 := f911.keep K915 (ninS ne_s_EMPTY_b878 nin0)
  have f929 := f912.keep K915
  have A930 : Arv Z h914 b878 kA879 .long (1 : Int32) [(.long (0 : Int64))] (.long (0 : Int64)) := A916
  refine g_aloadN C (pc' := 84) d6_83 rfl rfl rfl ?_
  refine g_getF C (pc' := 87) (wd hw 19 rfl) Via.refl d6_84 rfl f921 rfl ?_
  refine g_iloadN C (pc' := 88) d6_87 rfl rfl ?_
  refine g_aload C (pc' := 90) d6_88 rfl rfl rfl ?_
  refine g_aastore C (pc' := 91) d6_90 rfl f924 rfl (stoA f924 Ov f929) (by decide) (by decide) gR rfl (fun h931 W932 => ?_)
  have f933 := f917.wr W932 gR
  have f934 := f918.wr W932
  have f935 := f919.other W932 (Or.inl n_c_R)
  have f936 := f920.other W932 (Or.inl n_c_R)
  have f937 := f921.other W932 (Or.inl n_c_R)
  have f938 := f922.other W932 (Or.inl n_c_R)
  have f939 := f923.other W932 (Or.inl n_c_R)
  have f940 := (arv_put f924 rfl W932 (i := 1) rfl (Nat.le_of_ble_eq_true rfl) : Arv Z h931 R kR (.array .long) (2 : Int32) [r0, (.ref b878)] .null)
  have f941 := f925.other W932 (Ne.symm n_R_F)
  have f942 := f926.other W932 (Ne.symm n_R_S)
  have f943 := f927.wr W932 (Or.inl (List.mem_of_getElem? (i := 0) rfl))
  have f944 := f928.other W932 (own_old O V_EMPTY.lt gR)
  have f945 := f929.wr W932
  have f946 := A930.other W932 (Ne.symm ne_R_b878)
  refine g_aloadN C (pc' := 92) d6_91 rfl rfl rfl ?_
  refine g_getF C (pc' := 95) (wd hw 22 rfl) Via.refl d6_92 rfl f938 rfl ?_
  refine g_iloadN C (pc' := 96) d6_95 rfl rfl ?_
  refine g_iconst C (pc' := 97) (v := (0 : Int32)) d6_96 (by decide) rfl ?_
  refine g_iastore C (pc' := 98) d6_97 rfl f941 (by decide) (by decide) gF rfl (fun h947 W948 => ?_)
  have f949 := f933.wr W948 gF
  have f950 := f934.wr W948
  have f951 := f935.other W948 (Or.inl n_c_F)
  have f952 := f936.other W948 (Or.inl n_c_F)
  have f953 := f937.other W948 (Or.inl n_c_F)
  have f954 := f938.other W948 (Or.inl n_c_F)
  have f955 := f939.other W948 (Or.inl n_c_F)
  have f956 := f940.other W948 n_R_F
  have f957 := (arv_put f941 rfl W948 (i := 1) rfl (Nat.le_of_ble_eq_true rfl) : Arv Z h947 F kF .int (2 : Int32) [(.int f0), (.int (0 : Int32))] (.int (0 : Int32)))
  have f958 := f942.other W948 (Ne.symm n_F_S)
  have f959 := f943.wr W948 (Or.inl (List.mem_of_getElem? (i := 1) rfl))
  have f960 := f944.other W948 (own_old O V_EMPTY.lt gF)
  have f961 := f945.wr W948
  have f962 := f946.other W948 (Ne.symm ne_F_b878)
  refine g_aload C (pc' := 100) d6_98 rfl rfl rfl ?_
  exact g_areturn C d6_100 rfl rfl rfl rfl (Nat.le_of_ble_eq_true rfl) (Nat.le_of_ble_eq_true rfl) (⟨b878, kA879, rfl, sz_b878, f959, f962, ⟨gc, gR, gF, gS, n_c_R, n_c_F, n_c_S, n_R_F, n_R_S, n_F_S, Ov, f950, f951, f952, f953, f954, f955, f956, f957, f958⟩⟩)
set_option maxRecDepth 65536 in
set_option maxHeartbeats 40000000 in
theorem grow1_1_1 (l : Launch) (Z : State) (a0 : Array Value) (hw : ∀ d ∈ tables_1, d.before a0 Z = true) (n0 : Nat) (h : Heap) (O : Old Z n0 h) (s_EMPTY : Addr) (H : En Z s_EMPTY) (c R F S : Addr) (kR kF kS : ClassId) (m f0 s0 : Int32) (r0 : Value) (rg : Addr) (grg : n0 ≤ rg) (kJ : ClassId) (y0 : Int64) (Ar : Arv Z h rg kJ .long (1 : Int32) [(.long y0)] (.long (0 : Int64))) (nR : rg ≠ R) (nF : rg ≠ F) (nS : rg ≠ S) (hm : ¬ m.toInt64 < (2 : Int64)) (P : RC Z n0 h c R F S kR kF kS (1 : Int32) m r0 (.ref rg) f0 (0 : Int32) s0 (1 : Int32)) : Con l Z (⟨"com/example/request_throttle/requestthrottle/RingColumn", "grow", "(I)[J"⟩ : MethodName) prog_17_method_10_code 7 (some (.array .long)) ({ frames := 1, cells := 1, slots := 2, locals := 18 } : Room) #[(.ref c), (.int (1 : Int32))] h n0 (fun r h' => ∃ g kJ, r = some (.ref g) ∧ h.size ≤ g ∧ Keep h h' [R, F, S] ∧ Arv Z h' g kJ .long (2 : Int32) [(.long y0), (.long (0 : Int64))] (.long (0 : Int64)) ∧ RC Z n0 h' c R F S kR kF kS (1 : Int32) m r0 (.ref g) f0 (0 : Int32) s0 (1 : Int32)) := by
  refine Con.mk (Ls := #[.val (.ref c), .val (.int (1 : Int32)), .unset, .unset, .unset, .unset, .unset]) (plainFor_of_name pn_0) (fun m => by first | (simp [entryFrame, mkF, argsToLocals, Value.category]; done) | rfl) (fun w C => ?_)
  replace C : Cx w l Z "com/example/request_throttle/requestthrottle/RingColumn" prog_17_method_10_code 7 (some (.array .long)) "grow" ({ frames := 1, cells := 1, slots := 2, locals := 18 } : Room) n0 := C
  obtain ⟨S_EMPTY, E_EMPTY, V_EMPTY⟩ := id H
  obtain ⟨kE, V_EMPTY⟩ := V_EMPTY
  obtain ⟨gc, gR, gF, gS, n_c_R, n_c_F, n_c_S, n_R_F, n_R_S, n_F_S, Ov, E0, Fw, Fm, FR, FF, FS, AR, AF, AS⟩ := P
  refine g_aloadN C (pc' := 1) d6_0 rfl rfl rfl ?_
  refine g_getF C (pc' := 4) (wd hw 19 rfl) Via.refl d6_1 rfl FR rfl ?_
  refine g_iloadN C (pc' := 5) d6_4 rfl rfl ?_
  refine g_aaload C (pc' := 6) (x := (.ref rg)) d6_5 rfl AR rfl (by decide) (by decide) rfl rfl ?_
  refine g_astoreN C (pc' := 7) (Ls' := #[.val (.ref c), .val (.int (1 : Int32)), .val (.ref rg), .unset, .unset, .unset, .unset]) d6_6 rfl rfl rfl rfl ?_
  refine g_lconst C (pc' := 8) (v := (1 : Int64)) d6_7 (by decide) rfl ?_
  refine g_ldc2Long C (pc' := 11) (wd hw 43 rfl) d6_8 rfl ?_
  refine g_aloadN C (pc' := 12) d6_11 rfl rfl rfl ?_
  refine g_alen C (pc' := 13) d6_12 rfl Ar rfl ?_
  refine g_i2l C (pc' := 14) d6_13 rfl rfl ?_
  rw [show (1 : Int32).toInt64 = (1 : Int64) from by decide]
  refine g_lmul C (pc' := 15) d6_14 rfl rfl ?_
  rw [show ((2 : Int64) * (1 : Int64)) = (2 : Int64) from by decide]
  refine g_aloadN C (pc' := 16) d6_15 rfl rfl rfl ?_
  refine g_getF C (pc' := 19) (wd hw 13 rfl) Via.refl d6_16 rfl Fw rfl ?_
  refine g_i2l C (pc' := 20) d6_19 rfl rfl ?_
  rw [show (1 : Int32).toInt64 = (1 : Int64) from by decide]
  refine g_ldiv C (pc' := 21) d6_20 rfl (by decide) rfl ?_
  rw [show ((2 : Int64) / (1 : Int64)) = (2 : Int64) from by decide]
  refine g_callS C (pc' := 24) (k' := 0) (n' := 0) (argsL := [(.long (1 : Int64)), (.long (2 : Int64))]) (rest := []) (wd hw 44 rfl) (wd hw 45 rfl) (wd hw 2 rfl) (wd hw 46 rfl) (by decide) d6_21 pd_6 rfl rfl rfl (max_1_2 l Z a0 hw n0 h O s_EMPTY H) (Nat.le_of_ble_eq_true rfl) (Nat.le_of_ble_eq_true rfl) (Nat.le_of_ble_eq_true rfl) (Nat.le_of_ble_eq_true rfl) rfl rfl rfl (fun v964 h963 q965 => ?_)
  obtain ⟨rfl, eh963⟩ := q965
  subst h963
  show G w _ h 0 0 24 #[.val (.ref c), .val (.int (1 : Int32)), .val (.ref rg), .unset, .unset, .unset, .unset] [(.long (2 : Int64))]
  refine g_aloadN C (pc' := 25) d6_24 rfl rfl rfl ?_
  refine g_getF C (pc' := 28) (wd hw 15 rfl) Via.refl d6_25 rfl Fm rfl ?_
  refine g_i2l C (pc' := 29) d6_28 rfl rfl ?_
  refine g_callS C (pc' := 32) (k' := 0) (n' := 0) (argsL := [(.long (2 : Int64)), (.long m.toInt64)]) (rest := []) (wd hw 47 rfl) (wd hw 48 rfl) (wd hw 2 rfl) (wd hw 49 rfl) (by decide) d6_29 pd_6 rfl rfl rfl (min_2 l Z a0 hw n0 h O s_EMPTY H m hm) (Nat.le_of_ble_eq_true rfl) (Nat.le_of_ble_eq_true rfl) (Nat.le_of_ble_eq_true rfl) (Nat.le_of_ble_eq_true rfl) rfl rfl rfl (fun v967 h966 q968 => ?_)
  obtain ⟨rfl, eh966⟩ := q968
  subst h966
  show G w _ h 0 0 32 #[.val (.ref c), .val (.int (1 : Int32)), .val (.ref rg), .unset, .unset, .unset, .unset] [(.long (2 : Int64))]
  refine g_lstoreN C (pc' := 33) (Ls' := #[.val (.ref c), .val (.int (1 : Int32)), .val (.ref rg), .val (.long (2 : Int64)), .second, .unset, .unset]) d6_32 rfl rfl rfl ?_
  refine g_lloadN C (pc' := 34) d6_33 rfl rfl ?_
  refine g_aloadN C (pc' := 35) d6_34 rfl rfl rfl ?_
  refine g_getF C (pc' := 38) (wd hw 13 rfl) Via.refl d6_35 rfl Fw rfl ?_
  refine g_i2l C (pc' := 39) d6_38 rfl rfl ?_
  rw [show (1 : Int32).toInt64 = (1 : Int64) from by decide]
  refine g_lmul C (pc' := 40) d6_39 rfl rfl ?_
  rw [show ((2 : Int64) * (1 : Int64)) = (2 : Int64) from by decide]
  refine g_callS C (pc' := 43) (k' := 0) (n' := 0) (argsL := [(.long (2 : Int64))]) (rest := []) (wd hw 50 rfl) (wd hw 51 rfl) (wd hw 2 rfl) (wd hw 52 rfl) (by decide) d6_40 pd_7 rfl rfl rfl (tie_2 l Z a0 hw n0 h O s_EMPTY H) (Nat.le_of_ble_eq_true rfl) (Nat.le_of_ble_eq_true rfl) (Nat.le_of_ble_eq_true rfl) (Nat.le_of_ble_eq_true rfl) rfl rfl rfl (fun v970 h969 q971 => ?_)
  obtain ⟨rfl, eh969⟩ := q971
  subst h969
  show G w _ h 0 0 43 #[.val (.ref c), .val (.int (1 : Int32)), .val (.ref rg), .val (.long (2 : Int64)), .second, .unset, .unset] [(.int (2 : Int32))]
  refine g_newPE C (pc' := 45) (k' := 1) (n' := 2) (cap := 2) (ad := "[J") (wd hw 53 rfl) (by decide) d6_43 rfl (by decide) (by decide) (by decide) (by decide) (by decide) rfl rfl rfl (fun h972 b973 kA974 ex975 E976 A977 B978 => ?_)
  have ne_c_b973 : c ≠ b973 := Nat.ne_of_lt (by rw [ex975]; exact E0.lt)
  have ne_R_b973 : R ≠ b973 := Nat.ne_of_lt (by rw [ex975]; exact AR.lt)
  have ne_F_b973 : F ≠ b973 := Nat.ne_of_lt (by rw [ex975]; exact AF.lt)
  have ne_S_b973 : S ≠ b973 := Nat.ne_of_lt (by rw [ex975]; exact AS.lt)
  have ne_rg_b973 : rg ≠ b973 := Nat.ne_of_lt (by rw [ex975]; exact Ar.lt)
  have ge_b973 : n0 ≤ b973 := by rw [ex975]; exact O.1 ▸ O.2.1
  have sz_b973 : h.size ≤ b973 := by rw [ex975]; exact (Keep.refl h [R, F, S]).1
  have f979 := O.ext E976
  have f980 := E0.ext E976
  have f981 := Fw.ext E976
  have f982 := Fm.ext E976
  have f983 := FR.ext E976
  have f984 := FF.ext E976
  have f985 := FS.ext E976
  have f986 := AR.ext E976
  have f987 := AF.ext E976
  have f988 := AS.ext E976
  have f989 := (Keep.refl h [R, F, S]).ext E976
  have f990 := Ar.ext E976
  have A991 : Arv Z h972 b973 kA974 .long (2 : Int32) [(.long (0 : Int64)), (.long (0 : Int64))] (.long (0 : Int64)) := A977.pad (pad_rep [] (.long (0 : Int64)) 2)
  refine g_astore C (pc' := 47) (Ls' := #[.val (.ref c), .val (.int (1 : Int32)), .val (.ref rg), .val (.long (2 : Int64)), .second, .val (.ref b973), .unset]) d6_45 rfl rfl rfl rfl ?_
  refine g_aloadN C (pc' := 48) d6_47 rfl rfl rfl ?_
  refine g_getF C (pc' := 51) (wd hw 22 rfl) Via.refl d6_48 rfl f984 rfl ?_
  refine g_iloadN C (pc' := 52) d6_51 rfl rfl ?_
  refine g_iaload C (pc' := 53) (x := (0 : Int32)) d6_52 rfl f987 (by decide) (by decide) rfl rfl ?_
  refine g_istore C (pc' := 55) (Ls' := #[.val (.ref c), .val (.int (1 : Int32)), .val (.ref rg), .val (.long (2 : Int64)), .second, .val (.ref b973), .val (.int (0 : Int32))]) d6_53 rfl rfl rfl ?_
  refine g_aloadN C (pc' := 56) d6_55 rfl rfl rfl ?_
  refine g_iload C (pc' := 58) d6_56 rfl rfl ?_
  refine g_aload C (pc' := 60) d6_58 rfl rfl rfl ?_
  refine g_iconst C (pc' := 61) (v := (0 : Int32)) d6_60 (by decide) rfl ?_
  refine g_aloadN C (pc' := 62) d6_61 rfl rfl rfl ?_
  refine g_alen C (pc' := 63) d6_62 rfl f990 rfl ?_
  refine g_iload C (pc' := 65) d6_63 rfl rfl ?_
  refine g_isub C (pc' := 66) d6_65 rfl rfl ?_
  rw [show ((1 : Int32) - (0 : Int32)) = (1 : Int32) from by decide]
  refine g_cpA C (pc' := 69) (us := [(.long y0)]) (wd hw 54 rfl) (wd hw 57 rfl) (wd hw 55 rfl) (wd hw 56 rfl) d6_66 rfl rfl f990 A991 (Or.inl ⟨rfl, rfl⟩) (by decide) (by decide) (by decide) (Nat.le_of_ble_eq_true rfl) (Nat.le_of_ble_eq_true rfl) rfl (Nat.le_of_ble_eq_true rfl) ge_b973 (Nat.le_of_ble_eq_true rfl) (Nat.le_of_ble_eq_true rfl) rfl (fun h992 K993 A994 => ?_)
  have f995 := f979.keep K993 (allS ge_b973 all0)
  have f996 := f980.keep K993
  have f997 := f981.keep K993 (ninS ne_c_b973 nin0)
  have f998 := f982.keep K993 (ninS ne_c_b973 nin0)
  have f999 := f983.keep K993 (ninS ne_c_b973 nin0)
  have f1000 := f984.keep K993 (ninS ne_c_b973 nin0)
  have f1001 := f985.keep K993 (ninS ne_c_b973 nin0)
  have f1002 := f986.keep K993 (ninS ne_R_b973 nin0)
  have f1003 := f987.keep K993 (ninS ne_F_b973 nin0)
  have f1004 := f988.keep K993 (ninS ne_S_b973 nin0)
  have f1005 := f989.trans K993 (allS (Or.inr sz_b973) all0)
  have f1006 := f990.keep K993 (ninS ne_rg_b973 nin0)
  have f1007 := B978.keep K993
  have A1008 : Arv Z h992 b973 kA974 .long (2 : Int32) [(.long y0), (.long (0 : Int64))] (.long (0 : Int64)) := A994
  refine g_aloadN C (pc' := 70) d6_69 rfl rfl rfl ?_
  refine g_iconst C (pc' := 71) (v := (0 : Int32)) d6_70 (by decide) rfl ?_
  refine g_aload C (pc' := 73) d6_71 rfl rfl rfl ?_
  refine g_aloadN C (pc' := 74) d6_73 rfl rfl rfl ?_
  refine g_alen C (pc' := 75) d6_74 rfl f1006 rfl ?_
  refine g_iload C (pc' := 77) d6_75 rfl rfl ?_
  refine g_isub C (pc' := 78) d6_77 rfl rfl ?_
  rw [show ((1 : Int32) - (0 : Int32)) = (1 : Int32) from by decide]
  refine g_iload C (pc' := 80) d6_78 rfl rfl ?_
  refine g_cpA C (pc' := 83) (us := []) (wd hw 54 rfl) (wd hw 57 rfl) (wd hw 55 rfl) (wd hw 56 rfl) d6_80 rfl rfl f1006 A1008 (Or.inl ⟨rfl, rfl⟩) (by decide) (by decide) (by decide) (Nat.le_of_ble_eq_true rfl) (Nat.le_of_ble_eq_true rfl) rfl (Nat.le_of_ble_eq_true rfl) ge_b973 (Nat.le_of_ble_eq_true rfl) (Nat.le_of_ble_eq_true rfl) rfl (fun h1009 K1010 A1011 => ?_)
  have f1012 := f995.keep K1010 (allS ge_b973 all0)
  have f1013 := f996.keep K1010
  have f1014 := f997.keep K1010 (ninS ne_c_b973 nin0)
  have f1015 := f998.keep K1010 (ninS ne_c_b973 nin0)
  have f1016 := f999.keep K1010 (ninS ne_c_b973 nin0)
  have f1017 := f1000.keep K1010 (ninS ne_c_b973 nin0)
  have f1018 := f1001.keep K1010 (ninS ne_c_b973 nin0)
  have f1019 := f1002.keep K1010 (ninS ne_R_b973 nin0)
  have f1020 := f1003.keep K1010 (ninS ne_F_b973 nin0)
  have f1021 := f1004.keep K1010 (ninS ne_S_b973 nin0)
  have f1022 := f1005.trans K1010 (allS (Or.inr sz_b973) all0)
  have f1023 := f1006.keep K1010 (ninS ne_rg_b973 nin0)
  have f1024 := f1007.keep K1010
  have A1025 : Arv Z h1009 b973 kA974 .long (2 : Int32) [(.long y0), (.long (0 : Int64))] (.long (0 : Int64)) := A1011
  refine g_aloadN C (pc' := 84) d6_83 rfl rfl rfl ?_
  refine g_getF C (pc' := 87) (wd hw 19 rfl) Via.refl d6_84 rfl f1016 rfl ?_
  refine g_iloadN C (pc' := 88) d6_87 rfl rfl ?_
  refine g_aload C (pc' := 90) d6_88 rfl rfl rfl ?_
  refine g_aastore C (pc' := 91) d6_90 rfl f1019 rfl (stoA f1019 Ov f1024) (by decide) (by decide) gR rfl (fun h1026 W1027 => ?_)
  have f1028 := f1012.wr W1027 gR
  have f1029 := f1013.wr W1027
  have f1030 := f1014.other W1027 (Or.inl n_c_R)
  have f1031 := f1015.other W1027 (Or.inl n_c_R)
  have f1032 := f1016.other W1027 (Or.inl n_c_R)
  have f1033 := f1017.other W1027 (Or.inl n_c_R)
  have f1034 := f1018.other W1027 (Or.inl n_c_R)
  have f1035 := (arv_put f1019 rfl W1027 (i := 1) rfl (Nat.le_of_ble_eq_true rfl) : Arv Z h1026 R kR (.array .long) (2 : Int32) [r0, (.ref b973)] .null)
  have f1036 := f1020.other W1027 (Ne.symm n_R_F)
  have f1037 := f1021.other W1027 (Ne.symm n_R_S)
  have f1038 := f1022.wr W1027 (Or.inl (List.mem_of_getElem? (i := 0) rfl))
  have f1039 := f1023.other W1027 nR
  have f1040 := f1024.wr W1027
  have f1041 := A1025.other W1027 (Ne.symm ne_R_b973)
  refine g_aloadN C (pc' := 92) d6_91 rfl rfl rfl ?_
  refine g_getF C (pc' := 95) (wd hw 22 rfl) Via.refl d6_92 rfl f1033 rfl ?_
  refine g_iloadN C (pc' := 96) d6_95 rfl rfl ?_
  refine g_iconst C (pc' := 97) (v := (0 : Int32)) d6_96 (by decide) rfl ?_
  refine g_iastore C (pc' := 98) d6_97 rfl f1036 (by decide) (by decide) gF rfl (fun h1042 W1043 => ?_)
  have f1044 := f1028.wr W1043 gF
  have f1045 := f1029.wr W1043
  have f1046 := f1030.other W1043 (Or.inl n_c_F)
  have f1047 := f1031.other W1043 (Or.inl n_c_F)
  have f1048 := f1032.other W1043 (Or.inl n_c_F)
  have f1049 := f1033.other W1043 (Or.inl n_c_F)
  have f1050 := f1034.other W1043 (Or.inl n_c_F)
  have f1051 := f1035.other W1043 n_R_F
  have f1052 := (arv_put f1036 rfl W1043 (i := 1) rfl (Nat.le_of_ble_eq_true rfl) : Arv Z h1042 F kF .int (2 : Int32) [(.int f0), (.int (0 : Int32))] (.int (0 : Int32)))
  have f1053 := f1037.other W1043 (Ne.symm n_F_S)
  have f1054 := f1038.wr W1043 (Or.inl (List.mem_of_getElem? (i := 1) rfl))
  have f1055 := f1039.other W1043 nF
  have f1056 := f1040.wr W1043
  have f1057 := f1041.other W1043 (Ne.symm ne_F_b973)
  refine g_aload C (pc' := 100) d6_98 rfl rfl rfl ?_
  exact g_areturn C d6_100 rfl rfl rfl rfl (Nat.le_of_ble_eq_true rfl) (Nat.le_of_ble_eq_true rfl) (⟨b973, kA974, rfl, sz_b973, f1054, f1057, ⟨gc, gR, gF, gS, n_c_R, n_c_F, n_c_S, n_R_F, n_R_S, n_F_S, Ov, f1045, f1046, f1047, f1048, f1049, f1050, f1051, f1052, f1053⟩⟩)
set_option maxRecDepth 65536 in
set_option maxHeartbeats 40000000 in
theorem add0_1_1 (l : Launch) (Z : State) (a0 : Array Value) (hw : ∀ d ∈ tables_1, d.before a0 Z = true) (n0 : Nat) (h : Heap) (O : Old Z n0 h) (s_EMPTY : Addr) (H : En Z s_EMPTY) (c R F S : Addr) (kR kF kS : ClassId) (m f0 s0 : Int32) (r0 : Value) (x : Int64) (hm : ¬ m.toInt64 < (1 : Int64)) (P : RC Z n0 h c R F S kR kF kS (1 : Int32) m r0 (.ref s_EMPTY) f0 (0 : Int32) s0 (0 : Int32)) : Con l Z (⟨"com/example/request_throttle/requestthrottle/RingColumn", "add", "(IJ)V"⟩ : MethodName) prog_17_method_6_code 5 none ({ frames := 2, cells := 1, slots := 1, locals := 36 } : Room) #[(.ref c), (.int (1 : Int32)), (.long x)] h n0 (fun r h' => r = none ∧ ∃ g kJ, h.size ≤ g ∧ Keep h h' [R, F, S] ∧ Arv Z h' g kJ .long (1 : Int32) [(.long x)] (.long (0 : Int64)) ∧ RC Z n0 h' c R F S kR kF kS (1 : Int32) m r0 (.ref g) f0 (0 : Int32) s0 (1 : Int32)) := by
  refine Con.mk (Ls := #[.val (.ref c), .val (.int (1 : Int32)), .val (.long x), .second, .unset]) (plainFor_of_name pn_0) (fun m => by first | (simp [entryFrame, mkF, argsToLocals, Value.category]; done) | rfl) (fun w C => ?_)
  replace C : Cx w l Z "com/example/request_throttle/requestthrottle/RingColumn" prog_17_method_6_code 5 none "add" ({ frames := 2, cells := 1, slots := 1, locals := 36 } : Room) n0 := C
  obtain ⟨S_EMPTY, E_EMPTY, V_EMPTY⟩ := id H
  obtain ⟨kE, V_EMPTY⟩ := V_EMPTY
  obtain ⟨gc, gR, gF, gS, n_c_R, n_c_F, n_c_S, n_R_F, n_R_S, n_F_S, Ov, E0, Fw, Fm, FR, FF, FS, AR, AF, AS⟩ := P
  refine g_aloadN C (pc' := 1) d5_0 rfl rfl rfl ?_
  refine g_getF C (pc' := 4) (wd hw 19 rfl) Via.refl d5_1 rfl FR rfl ?_
  refine g_iloadN C (pc' := 5) d5_4 rfl rfl ?_
  refine g_aaload C (pc' := 6) (x := (.ref s_EMPTY)) d5_5 rfl AR rfl (by decide) (by decide) rfl rfl ?_
  refine g_astore C (pc' := 8) (Ls' := #[.val (.ref c), .val (.int (1 : Int32)), .val (.long x), .second, .val (.ref s_EMPTY)]) d5_6 rfl rfl rfl rfl ?_
  refine g_aloadN C (pc' := 9) d5_8 rfl rfl rfl ?_
  refine g_getF C (pc' := 12) (wd hw 24 rfl) Via.refl d5_9 rfl FS rfl ?_
  refine g_iloadN C (pc' := 13) d5_12 rfl rfl ?_
  refine g_iaload C (pc' := 14) (x := (0 : Int32)) d5_13 rfl AS (by decide) (by decide) rfl rfl ?_
  refine g_aloadN C (pc' := 15) d5_14 rfl rfl rfl ?_
  refine g_getF C (pc' := 18) (wd hw 13 rfl) Via.refl d5_15 rfl Fw rfl ?_
  refine g_imul C (pc' := 19) d5_18 rfl rfl ?_
  rw [show ((0 : Int32) * (1 : Int32)) = (0 : Int32) from by decide]
  refine g_aload C (pc' := 21) d5_19 rfl rfl rfl ?_
  refine g_alen C (pc' := 22) d5_21 rfl (V_EMPTY.ext O.2) rfl ?_
  refine g_icN C (pc' := 25) d5_22 rfl (by decide) rfl ?_
  refine g_aloadN C (pc' := 26) d5_25 rfl rfl rfl ?_
  refine g_iloadN C (pc' := 27) d5_26 rfl rfl ?_
  refine g_private C (pc' := 30) (k' := 1) (n' := 1) (argsL := [(.int (1 : Int32))]) (rest := []) (wd hw 39 rfl) (wd hw 40 rfl) (wd hw 5 rfl) (wd hw 41 rfl) (wd hw 6 rfl) (wd hw 42 rfl) (by decide) d5_27 pd_5 rfl rfl rfl E0 (grow0_1_1 l Z a0 hw n0 h O s_EMPTY H c R F S kR kF kS m f0 s0 r0 hm ⟨gc, gR, gF, gS, n_c_R, n_c_F, n_c_S, n_R_F, n_R_S, n_F_S, Ov, E0, Fw, Fm, FR, FF, FS, AR, AF, AS⟩) (Nat.le_of_ble_eq_true rfl) (Nat.le_of_ble_eq_true rfl) (Nat.le_of_ble_eq_true rfl) (Nat.le_of_ble_eq_true rfl) rfl rfl rfl (fun v1059 h1058 q1060 => ?_)
  obtain ⟨g, kG, rfl, hg, Kg, Ag, Pg⟩ := q1060
  have ne_c_g : c ≠ g := Nat.ne_of_lt (Nat.lt_of_lt_of_le E0.lt hg)
  have ne_R_g : R ≠ g := Nat.ne_of_lt (Nat.lt_of_lt_of_le AR.lt hg)
  have ne_F_g : F ≠ g := Nat.ne_of_lt (Nat.lt_of_lt_of_le AF.lt hg)
  have ne_S_g : S ≠ g := Nat.ne_of_lt (Nat.lt_of_lt_of_le AS.lt hg)
  have ne_s_EMPTY_g : s_EMPTY ≠ g := Nat.ne_of_lt (Nat.lt_of_lt_of_le (V_EMPTY.ext O.2).lt hg)
  have ge_g : n0 ≤ g := Nat.le_trans (O.1 ▸ O.2.1) hg
  have sz_g : h.size ≤ g := Nat.le_trans (Keep.refl h [R, F, S]).1 hg
  have f1061 := O.keep Kg (allS gR (allS gF (allS gS all0)))
  have f1062 := E0.keep Kg
  have f1063 := Fw.keep Kg (ninS n_c_R (ninS n_c_F (ninS n_c_S nin0)))
  have f1064 := Fm.keep Kg (ninS n_c_R (ninS n_c_F (ninS n_c_S nin0)))
  have f1065 := FR.keep Kg (ninS n_c_R (ninS n_c_F (ninS n_c_S nin0)))
  have f1066 := FF.keep Kg (ninS n_c_R (ninS n_c_F (ninS n_c_S nin0)))
  have f1067 := FS.keep Kg (ninS n_c_R (ninS n_c_F (ninS n_c_S nin0)))
  have f1068 := (Keep.refl h [R, F, S]).trans Kg (allS (Or.inl (List.mem_of_getElem? (i := 0) rfl)) (allS (Or.inl (List.mem_of_getElem? (i := 1) rfl)) (allS (Or.inl (List.mem_of_getElem? (i := 2) rfl)) all0)))
  have f1069 := (V_EMPTY.ext O.2).keep Kg (ninS (own_old O V_EMPTY.lt gR) (ninS (own_old O V_EMPTY.lt gF) (ninS (own_old O V_EMPTY.lt gS) nin0)))
  obtain ⟨qgc, qgR, qgF, qgS, qn_c_R, qn_c_F, qn_c_S, qn_R_F, qn_R_S, qn_F_S, qOv, qE0, qFw, qFm, qFR, qFF, qFS, qAR, qAF, qAS⟩ := Pg
  show G w _ h1058 1 1 30 #[.val (.ref c), .val (.int (1 : Int32)), .val (.long x), .second, .val (.ref s_EMPTY)] [(.ref g)]
  refine g_astore C (pc' := 32) (Ls' := #[.val (.ref c), .val (.int (1 : Int32)), .val (.long x), .second, .val (.ref g)]) d5_30 rfl rfl rfl rfl ?_
  refine g_aload C (pc' := 34) d5_32 rfl rfl rfl ?_
  refine g_aloadN C (pc' := 35) d5_34 rfl rfl rfl ?_
  refine g_aload C (pc' := 37) d5_35 rfl rfl rfl ?_
  refine g_iloadN C (pc' := 38) d5_37 rfl rfl ?_
  refine g_aloadN C (pc' := 39) d5_38 rfl rfl rfl ?_
  refine g_getF C (pc' := 42) (wd hw 24 rfl) Via.refl d5_39 rfl qFS rfl ?_
  refine g_iloadN C (pc' := 43) d5_42 rfl rfl ?_
  refine g_iaload C (pc' := 44) (x := (0 : Int32)) d5_43 rfl qAS (by decide) (by decide) rfl rfl ?_
  refine g_private C (pc' := 47) (k' := 1) (n' := 1) (argsL := [(.ref g), (.int (1 : Int32)), (.int (0 : Int32))]) (rest := [(.ref g)]) (wd hw 58 rfl) (wd hw 59 rfl) (wd hw 5 rfl) (wd hw 60 rfl) (wd hw 6 rfl) (wd hw 61 rfl) (by decide) d5_44 pd_9 rfl rfl rfl qE0 (start_1_1_0 l Z a0 hw n0 h1058 f1061 s_EMPTY H c R F S kR kF kS m f0 s0 (0 : Int32) r0 (.ref g) g kG (0 : Int64) Ag ⟨gc, gR, gF, gS, n_c_R, n_c_F, n_c_S, n_R_F, n_R_S, n_F_S, Ov, qE0, qFw, qFm, qFR, qFF, qFS, qAR, qAF, qAS⟩) (Nat.le_of_ble_eq_true rfl) (Nat.le_of_ble_eq_true rfl) (Nat.le_of_ble_eq_true rfl) (Nat.le_of_ble_eq_true rfl) rfl rfl rfl (fun v1071 h1070 q1072 => ?_)
  obtain ⟨rfl, eh1070⟩ := q1072
  subst h1070
  show G w _ h1058 1 1 47 #[.val (.ref c), .val (.int (1 : Int32)), .val (.long x), .second, .val (.ref g)] [(.int (0 : Int32)), (.ref g)]
  refine g_lloadN C (pc' := 48) d5_47 rfl rfl ?_
  refine g_lastore C (pc' := 49) d5_48 rfl Ag (by decide) (by decide) ge_g rfl (fun h1073 W1074 => ?_)
  have f1075 := f1061.wr W1074 ge_g
  have f1076 := qE0.wr W1074
  have f1077 := f1068.wr W1074 (Or.inr sz_g)
  have f1078 := f1069.other W1074 ne_s_EMPTY_g
  have f1079 := qFw.other W1074 (Or.inl ne_c_g)
  have f1080 := qFm.other W1074 (Or.inl ne_c_g)
  have f1081 := qFR.other W1074 (Or.inl ne_c_g)
  have f1082 := qFF.other W1074 (Or.inl ne_c_g)
  have f1083 := qFS.other W1074 (Or.inl ne_c_g)
  have f1084 := qAR.other W1074 ne_R_g
  have f1085 := qAF.other W1074 ne_F_g
  have f1086 := qAS.other W1074 ne_S_g
  have f1087 := (arv_put Ag rfl W1074 (i := 0) rfl (Nat.le_of_ble_eq_true rfl) : Arv Z h1073 g kG .long (1 : Int32) [(.long x)] (.long (0 : Int64)))
  refine g_aloadN C (pc' := 50) d5_49 rfl rfl rfl ?_
  refine g_getF C (pc' := 53) (wd hw 24 rfl) Via.refl d5_50 rfl f1083 rfl ?_
  refine g_iloadN C (pc' := 54) d5_53 rfl rfl ?_
  refine g_dup2 C (pc' := 55) d5_54 rfl rfl rfl rfl ?_
  refine g_iaload C (pc' := 56) (x := (0 : Int32)) d5_55 rfl f1086 (by decide) (by decide) rfl rfl ?_
  refine g_iconst C (pc' := 57) (v := (1 : Int32)) d5_56 (by decide) rfl ?_
  refine g_iadd C (pc' := 58) d5_57 rfl rfl ?_
  rw [show ((0 : Int32) + (1 : Int32)) = (1 : Int32) from by decide]
  refine g_iastore C (pc' := 59) d5_58 rfl f1086 (by decide) (by decide) gS rfl (fun h1088 W1089 => ?_)
  have f1090 := f1075.wr W1089 gS
  have f1091 := f1076.wr W1089
  have f1092 := f1077.wr W1089 (Or.inl (List.mem_of_getElem? (i := 2) rfl))
  have f1093 := f1078.other W1089 (own_old O V_EMPTY.lt gS)
  have f1094 := f1079.other W1089 (Or.inl n_c_S)
  have f1095 := f1080.other W1089 (Or.inl n_c_S)
  have f1096 := f1081.other W1089 (Or.inl n_c_S)
  have f1097 := f1082.other W1089 (Or.inl n_c_S)
  have f1098 := f1083.other W1089 (Or.inl n_c_S)
  have f1099 := f1084.other W1089 n_R_S
  have f1100 := f1085.other W1089 n_F_S
  have f1101 := (arv_put f1086 rfl W1089 (i := 1) rfl (Nat.le_of_ble_eq_true rfl) : Arv Z h1088 S kS .int (2 : Int32) [(.int s0), (.int (1 : Int32))] (.int (0 : Int32)))
  have f1102 := f1087.other W1089 (Ne.symm ne_S_g)
  exact g_return C d5_59 rfl (Nat.le_of_ble_eq_true rfl) (Nat.le_of_ble_eq_true rfl) (⟨rfl, g, kG, sz_g, f1092, f1102, ⟨gc, gR, gF, gS, n_c_R, n_c_F, n_c_S, n_R_F, n_R_S, n_F_S, Ov, f1091, f1094, f1095, f1096, f1097, f1098, f1099, f1100, f1101⟩⟩)
set_option maxRecDepth 65536 in
set_option maxHeartbeats 40000000 in
theorem add1_1_1 (l : Launch) (Z : State) (a0 : Array Value) (hw : ∀ d ∈ tables_1, d.before a0 Z = true) (n0 : Nat) (h : Heap) (O : Old Z n0 h) (s_EMPTY : Addr) (H : En Z s_EMPTY) (c R F S : Addr) (kR kF kS : ClassId) (m f0 s0 : Int32) (r0 : Value) (x : Int64) (rg : Addr) (grg : n0 ≤ rg) (kJ : ClassId) (y0 : Int64) (Ar : Arv Z h rg kJ .long (1 : Int32) [(.long y0)] (.long (0 : Int64))) (nR : rg ≠ R) (nF : rg ≠ F) (nS : rg ≠ S) (hm : ¬ m.toInt64 < (2 : Int64)) (P : RC Z n0 h c R F S kR kF kS (1 : Int32) m r0 (.ref rg) f0 (0 : Int32) s0 (1 : Int32)) : Con l Z (⟨"com/example/request_throttle/requestthrottle/RingColumn", "add", "(IJ)V"⟩ : MethodName) prog_17_method_6_code 5 none ({ frames := 2, cells := 1, slots := 2, locals := 36 } : Room) #[(.ref c), (.int (1 : Int32)), (.long x)] h n0 (fun r h' => r = none ∧ ∃ g kJ, h.size ≤ g ∧ Keep h h' [R, F, S] ∧ Arv Z h' g kJ .long (2 : Int32) [(.long y0), (.long x)] (.long (0 : Int64)) ∧ RC Z n0 h' c R F S kR kF kS (1 : Int32) m r0 (.ref g) f0 (0 : Int32) s0 (2 : Int32)) := by
  refine Con.mk (Ls := #[.val (.ref c), .val (.int (1 : Int32)), .val (.long x), .second, .unset]) (plainFor_of_name pn_0) (fun m => by first | (simp [entryFrame, mkF, argsToLocals, Value.category]; done) | rfl) (fun w C => ?_)
  replace C : Cx w l Z "com/example/request_throttle/requestthrottle/RingColumn" prog_17_method_6_code 5 none "add" ({ frames := 2, cells := 1, slots := 2, locals := 36 } : Room) n0 := C
  obtain ⟨S_EMPTY, E_EMPTY, V_EMPTY⟩ := id H
  obtain ⟨kE, V_EMPTY⟩ := V_EMPTY
  obtain ⟨gc, gR, gF, gS, n_c_R, n_c_F, n_c_S, n_R_F, n_R_S, n_F_S, Ov, E0, Fw, Fm, FR, FF, FS, AR, AF, AS⟩ := P
  refine g_aloadN C (pc' := 1) d5_0 rfl rfl rfl ?_
  refine g_getF C (pc' := 4) (wd hw 19 rfl) Via.refl d5_1 rfl FR rfl ?_
  refine g_iloadN C (pc' := 5) d5_4 rfl rfl ?_
  refine g_aaload C (pc' := 6) (x := (.ref rg)) d5_5 rfl AR rfl (by decide) (by decide) rfl rfl ?_
  refine g_astore C (pc' := 8) (Ls' := #[.val (.ref c), .val (.int (1 : Int32)), .val (.long x), .second, .val (.ref rg)]) d5_6 rfl rfl rfl rfl ?_
  refine g_aloadN C (pc' := 9) d5_8 rfl rfl rfl ?_
  refine g_getF C (pc' := 12) (wd hw 24 rfl) Via.refl d5_9 rfl FS rfl ?_
  refine g_iloadN C (pc' := 13) d5_12 rfl rfl ?_
  refine g_iaload C (pc' := 14) (x := (1 : Int32)) d5_13 rfl AS (by decide) (by decide) rfl rfl ?_
  refine g_aloadN C (pc' := 15) d5_14 rfl rfl rfl ?_
  refine g_getF C (pc' := 18) (wd hw 13 rfl) Via.refl d5_15 rfl Fw rfl ?_
  refine g_imul C (pc' := 19) d5_18 rfl rfl ?_
  rw [show ((1 : Int32) * (1 : Int32)) = (1 : Int32) from by decide]
  refine g_aload C (pc' := 21) d5_19 rfl rfl rfl ?_
  refine g_alen C (pc' := 22) d5_21 rfl Ar rfl ?_
  refine g_icN C (pc' := 25) d5_22 rfl (by decide) rfl ?_
  refine g_aloadN C (pc' := 26) d5_25 rfl rfl rfl ?_
  refine g_iloadN C (pc' := 27) d5_26 rfl rfl ?_
  refine g_private C (pc' := 30) (k' := 1) (n' := 2) (argsL := [(.int (1 : Int32))]) (rest := []) (wd hw 39 rfl) (wd hw 40 rfl) (wd hw 5 rfl) (wd hw 41 rfl) (wd hw 6 rfl) (wd hw 42 rfl) (by decide) d5_27 pd_5 rfl rfl rfl E0 (grow1_1_1 l Z a0 hw n0 h O s_EMPTY H c R F S kR kF kS m f0 s0 r0 rg grg kJ y0 Ar nR nF nS hm ⟨gc, gR, gF, gS, n_c_R, n_c_F, n_c_S, n_R_F, n_R_S, n_F_S, Ov, E0, Fw, Fm, FR, FF, FS, AR, AF, AS⟩) (Nat.le_of_ble_eq_true rfl) (Nat.le_of_ble_eq_true rfl) (Nat.le_of_ble_eq_true rfl) (Nat.le_of_ble_eq_true rfl) rfl rfl rfl (fun v1104 h1103 q1105 => ?_)
  obtain ⟨g, kG, rfl, hg, Kg, Ag, Pg⟩ := q1105
  have ne_c_g : c ≠ g := Nat.ne_of_lt (Nat.lt_of_lt_of_le E0.lt hg)
  have ne_R_g : R ≠ g := Nat.ne_of_lt (Nat.lt_of_lt_of_le AR.lt hg)
  have ne_F_g : F ≠ g := Nat.ne_of_lt (Nat.lt_of_lt_of_le AF.lt hg)
  have ne_S_g : S ≠ g := Nat.ne_of_lt (Nat.lt_of_lt_of_le AS.lt hg)
  have ne_rg_g : rg ≠ g := Nat.ne_of_lt (Nat.lt_of_lt_of_le Ar.lt hg)
  have ge_g : n0 ≤ g := Nat.le_trans (O.1 ▸ O.2.1) hg
  have sz_g : h.size ≤ g := Nat.le_trans (Keep.refl h [R, F, S]).1 hg
  have f1106 := O.keep Kg (allS gR (allS gF (allS gS all0)))
  have f1107 := E0.keep Kg
  have f1108 := Fw.keep Kg (ninS n_c_R (ninS n_c_F (ninS n_c_S nin0)))
  have f1109 := Fm.keep Kg (ninS n_c_R (ninS n_c_F (ninS n_c_S nin0)))
  have f1110 := FR.keep Kg (ninS n_c_R (ninS n_c_F (ninS n_c_S nin0)))
  have f1111 := FF.keep Kg (ninS n_c_R (ninS n_c_F (ninS n_c_S nin0)))
  have f1112 := FS.keep Kg (ninS n_c_R (ninS n_c_F (ninS n_c_S nin0)))
  have f1113 := (Keep.refl h [R, F, S]).trans Kg (allS (Or.inl (List.mem_of_getElem? (i := 0) rfl)) (allS (Or.inl (List.mem_of_getElem? (i := 1) rfl)) (allS (Or.inl (List.mem_of_getElem? (i := 2) rfl)) all0)))
  have f1114 := Ar.keep Kg (ninS nR (ninS nF (ninS nS nin0)))
  obtain ⟨qgc, qgR, qgF, qgS, qn_c_R, qn_c_F, qn_c_S, qn_R_F, qn_R_S, qn_F_S, qOv, qE0, qFw, qFm, qFR, qFF, qFS, qAR, qAF, qAS⟩ := Pg
  show G w _ h1103 1 2 30 #[.val (.ref c), .val (.int (1 : Int32)), .val (.long x), .second, .val (.ref rg)] [(.ref g)]
  refine g_astore C (pc' := 32) (Ls' := #[.val (.ref c), .val (.int (1 : Int32)), .val (.long x), .second, .val (.ref g)]) d5_30 rfl rfl rfl rfl ?_
  refine g_aload C (pc' := 34) d5_32 rfl rfl rfl ?_
  refine g_aloadN C (pc' := 35) d5_34 rfl rfl rfl ?_
  refine g_aload C (pc' := 37) d5_35 rfl rfl rfl ?_
  refine g_iloadN C (pc' := 38) d5_37 rfl rfl ?_
  refine g_aloadN C (pc' := 39) d5_38 rfl rfl rfl ?_
  refine g_getF C (pc' := 42) (wd hw 24 rfl) Via.refl d5_39 rfl qFS rfl ?_
  refine g_iloadN C (pc' := 43) d5_42 rfl rfl ?_
  refine g_iaload C (pc' := 44) (x := (1 : Int32)) d5_43 rfl qAS (by decide) (by decide) rfl rfl ?_
  refine g_private C (pc' := 47) (k' := 1) (n' := 2) (argsL := [(.ref g), (.int (1 : Int32)), (.int (1 : Int32))]) (rest := [(.ref g)]) (wd hw 58 rfl) (wd hw 59 rfl) (wd hw 5 rfl) (wd hw 60 rfl) (wd hw 6 rfl) (wd hw 61 rfl) (by decide) d5_44 pd_9 rfl rfl rfl qE0 (start_1_1_1b l Z a0 hw n0 h1103 f1106 s_EMPTY H c R F S kR kF kS m f0 s0 (1 : Int32) r0 (.ref g) g kG y0 (0 : Int64) Ag ⟨gc, gR, gF, gS, n_c_R, n_c_F, n_c_S, n_R_F, n_R_S, n_F_S, Ov, qE0, qFw, qFm, qFR, qFF, qFS, qAR, qAF, qAS⟩) (Nat.le_of_ble_eq_true rfl) (Nat.le_of_ble_eq_true rfl) (Nat.le_of_ble_eq_true rfl) (Nat.le_of_ble_eq_true rfl) rfl rfl rfl (fun v1116 h1115 q1117 => ?_)
  obtain ⟨rfl, eh1115⟩ := q1117
  subst h1115
  show G w _ h1103 1 2 47 #[.val (.ref c), .val (.int (1 : Int32)), .val (.long x), .second, .val (.ref g)] [(.int (1 : Int32)), (.ref g)]
  refine g_lloadN C (pc' := 48) d5_47 rfl rfl ?_
  refine g_lastore C (pc' := 49) d5_48 rfl Ag (by decide) (by decide) ge_g rfl (fun h1118 W1119 => ?_)
  have f1120 := f1106.wr W1119 ge_g
  have f1121 := qE0.wr W1119
  have f1122 := f1113.wr W1119 (Or.inr sz_g)
  have f1123 := f1114.other W1119 ne_rg_g
  have f1124 := qFw.other W1119 (Or.inl ne_c_g)
  have f1125 := qFm.other W1119 (Or.inl ne_c_g)
  have f1126 := qFR.other W1119 (Or.inl ne_c_g)
  have f1127 := qFF.other W1119 (Or.inl ne_c_g)
  have f1128 := qFS.other W1119 (Or.inl ne_c_g)
  have f1129 := qAR.other W1119 ne_R_g
  have f1130 := qAF.other W1119 ne_F_g
  have f1131 := qAS.other W1119 ne_S_g
  have f1132 := (arv_put Ag rfl W1119 (i := 1) rfl (Nat.le_of_ble_eq_true rfl) : Arv Z h1118 g kG .long (2 : Int32) [(.long y0), (.long x)] (.long (0 : Int64)))
  refine g_aloadN C (pc' := 50) d5_49 rfl rfl rfl ?_
  refine g_getF C (pc' := 53) (wd hw 24 rfl) Via.refl d5_50 rfl f1128 rfl ?_
  refine g_iloadN C (pc' := 54) d5_53 rfl rfl ?_
  refine g_dup2 C (pc' := 55) d5_54 rfl rfl rfl rfl ?_
  refine g_iaload C (pc' := 56) (x := (1 : Int32)) d5_55 rfl f1131 (by decide) (by decide) rfl rfl ?_
  refine g_iconst C (pc' := 57) (v := (1 : Int32)) d5_56 (by decide) rfl ?_
  refine g_iadd C (pc' := 58) d5_57 rfl rfl ?_
  rw [show ((1 : Int32) + (1 : Int32)) = (2 : Int32) from by decide]
  refine g_iastore C (pc' := 59) d5_58 rfl f1131 (by decide) (by decide) gS rfl (fun h1133 W1134 => ?_)
  have f1135 := f1120.wr W1134 gS
  have f1136 := f1121.wr W1134
  have f1137 := f1122.wr W1134 (Or.inl (List.mem_of_getElem? (i := 2) rfl))
  have f1138 := f1123.other W1134 nS
  have f1139 := f1124.other W1134 (Or.inl n_c_S)
  have f1140 := f1125.other W1134 (Or.inl n_c_S)
  have f1141 := f1126.other W1134 (Or.inl n_c_S)
  have f1142 := f1127.other W1134 (Or.inl n_c_S)
  have f1143 := f1128.other W1134 (Or.inl n_c_S)
  have f1144 := f1129.other W1134 n_R_S
  have f1145 := f1130.other W1134 n_F_S
  have f1146 := (arv_put f1131 rfl W1134 (i := 1) rfl (Nat.le_of_ble_eq_true rfl) : Arv Z h1133 S kS .int (2 : Int32) [(.int s0), (.int (2 : Int32))] (.int (0 : Int32)))
  have f1147 := f1132.other W1134 (Ne.symm ne_S_g)
  exact g_return C d5_59 rfl (Nat.le_of_ble_eq_true rfl) (Nat.le_of_ble_eq_true rfl) (⟨rfl, g, kG, sz_g, f1137, f1147, ⟨gc, gR, gF, gS, n_c_R, n_c_F, n_c_S, n_R_F, n_R_S, n_F_S, Ov, f1136, f1139, f1140, f1141, f1142, f1143, f1144, f1145, f1146⟩⟩)
set_option maxRecDepth 65536 in
set_option maxHeartbeats 40000000 in
theorem get_1_1 (l : Launch) (Z : State) (a0 : Array Value) (hw : ∀ d ∈ tables_1, d.before a0 Z = true) (n0 : Nat) (h : Heap) (O : Old Z n0 h) (s_EMPTY : Addr) (H : En Z s_EMPTY) (c R F S : Addr) (kR kF kS : ClassId) (m f0 s0 s1 : Int32) (r0 : Value) (rg : Addr) (kJ : ClassId) (y0 : Int64) (Ar : Arv Z h rg kJ .long (1 : Int32) [(.long y0)] (.long (0 : Int64))) (P : RC Z n0 h c R F S kR kF kS (1 : Int32) m r0 (.ref rg) f0 (0 : Int32) s0 s1) : Con l Z (⟨"com/example/request_throttle/requestthrottle/RingColumn", "get", "(III)J"⟩ : MethodName) prog_17_method_4_code 5 (some .long) ({ frames := 1, cells := 0, slots := 0, locals := 17 } : Room) #[(.ref c), (.int (1 : Int32)), (.int (0 : Int32)), (.int (0 : Int32))] h n0 (fun r h' => r = some (.long y0) ∧ h' = h) := by
  refine Con.mk (Ls := #[.val (.ref c), .val (.int (1 : Int32)), .val (.int (0 : Int32)), .val (.int (0 : Int32)), .unset]) (plainFor_of_name pn_0) (fun m => by first | (simp [entryFrame, mkF, argsToLocals, Value.category]; done) | rfl) (fun w C => ?_)
  replace C : Cx w l Z "com/example/request_throttle/requestthrottle/RingColumn" prog_17_method_4_code 5 (some .long) "get" ({ frames := 1, cells := 0, slots := 0, locals := 17 } : Room) n0 := C
  obtain ⟨S_EMPTY, E_EMPTY, V_EMPTY⟩ := id H
  obtain ⟨kE, V_EMPTY⟩ := V_EMPTY
  obtain ⟨gc, gR, gF, gS, n_c_R, n_c_F, n_c_S, n_R_F, n_R_S, n_F_S, Ov, E0, Fw, Fm, FR, FF, FS, AR, AF, AS⟩ := P
  refine g_aloadN C (pc' := 1) d12_0 rfl rfl rfl ?_
  refine g_getF C (pc' := 4) (wd hw 19 rfl) Via.refl d12_1 rfl FR rfl ?_
  refine g_iloadN C (pc' := 5) d12_4 rfl rfl ?_
  refine g_aaload C (pc' := 6) (x := (.ref rg)) d12_5 rfl AR rfl (by decide) (by decide) rfl rfl ?_
  refine g_astore C (pc' := 8) (Ls' := #[.val (.ref c), .val (.int (1 : Int32)), .val (.int (0 : Int32)), .val (.int (0 : Int32)), .val (.ref rg)]) d12_6 rfl rfl rfl rfl ?_
  refine g_aload C (pc' := 10) d12_8 rfl rfl rfl ?_
  refine g_aloadN C (pc' := 11) d12_10 rfl rfl rfl ?_
  refine g_aload C (pc' := 13) d12_11 rfl rfl rfl ?_
  refine g_iloadN C (pc' := 14) d12_13 rfl rfl ?_
  refine g_iloadN C (pc' := 15) d12_14 rfl rfl ?_
  refine g_private C (pc' := 18) (k' := 0) (n' := 0) (argsL := [(.ref rg), (.int (1 : Int32)), (.int (0 : Int32))]) (rest := [(.ref rg)]) (wd hw 58 rfl) (wd hw 59 rfl) (wd hw 5 rfl) (wd hw 60 rfl) (wd hw 6 rfl) (wd hw 61 rfl) (by decide) d12_15 pd_9 rfl rfl rfl E0 (start_1_1_0 l Z a0 hw n0 h O s_EMPTY H c R F S kR kF kS m f0 s0 s1 r0 (.ref rg) rg kJ y0 Ar ⟨gc, gR, gF, gS, n_c_R, n_c_F, n_c_S, n_R_F, n_R_S, n_F_S, Ov, E0, Fw, Fm, FR, FF, FS, AR, AF, AS⟩) (Nat.le_of_ble_eq_true rfl) (Nat.le_of_ble_eq_true rfl) (Nat.le_of_ble_eq_true rfl) (Nat.le_of_ble_eq_true rfl) rfl rfl rfl (fun v1149 h1148 q1150 => ?_)
  obtain ⟨rfl, eh1148⟩ := q1150
  subst h1148
  show G w _ h 0 0 18 #[.val (.ref c), .val (.int (1 : Int32)), .val (.int (0 : Int32)), .val (.int (0 : Int32)), .val (.ref rg)] [(.int (0 : Int32)), (.ref rg)]
  refine g_iloadN C (pc' := 19) d12_18 rfl rfl ?_
  refine g_iadd C (pc' := 20) d12_19 rfl rfl ?_
  rw [show ((0 : Int32) + (0 : Int32)) = (0 : Int32) from by decide]
  refine g_laload C (pc' := 21) (x := y0) d12_20 rfl Ar (by decide) (by decide) rfl rfl ?_
  exact g_lreturn C d12_21 rfl (Nat.le_of_ble_eq_true rfl) (Nat.le_of_ble_eq_true rfl) (⟨rfl, rfl⟩)
set_option maxRecDepth 65536 in
set_option maxHeartbeats 40000000 in
theorem rem1_1_1 (l : Launch) (Z : State) (a0 : Array Value) (hw : ∀ d ∈ tables_1, d.before a0 Z = true) (n0 : Nat) (h : Heap) (O : Old Z n0 h) (s_EMPTY : Addr) (H : En Z s_EMPTY) (c R F S : Addr) (kR kF kS : ClassId) (m f0 s0 : Int32) (r0 : Value) (rg : Addr) (kJ : ClassId) (y0 : Int64) (Ar : Arv Z h rg kJ .long (1 : Int32) [(.long y0)] (.long (0 : Int64))) (nR : rg ≠ R) (nF : rg ≠ F) (nS : rg ≠ S) (P : RC Z n0 h c R F S kR kF kS (1 : Int32) m r0 (.ref rg) f0 (0 : Int32) s0 (1 : Int32)) : Con l Z (⟨"com/example/request_throttle/requestthrottle/RingColumn", "removeFirst", "(I)V"⟩ : MethodName) prog_17_method_7_code 3 none ({ frames := 0, cells := 0, slots := 0, locals := 0 } : Room) #[(.ref c), (.int (1 : Int32))] h n0 (fun r h' => r = none ∧ Keep h h' [R, F, S] ∧ RC Z n0 h' c R F S kR kF kS (1 : Int32) m r0 (.ref rg) f0 (0 : Int32) s0 (0 : Int32)) := by
  refine Con.mk (Ls := #[.val (.ref c), .val (.int (1 : Int32)), .unset]) (plainFor_of_name pn_0) (fun m => by first | (simp [entryFrame, mkF, argsToLocals, Value.category]; done) | rfl) (fun w C => ?_)
  replace C : Cx w l Z "com/example/request_throttle/requestthrottle/RingColumn" prog_17_method_7_code 3 none "removeFirst" ({ frames := 0, cells := 0, slots := 0, locals := 0 } : Room) n0 := C
  obtain ⟨S_EMPTY, E_EMPTY, V_EMPTY⟩ := id H
  obtain ⟨kE, V_EMPTY⟩ := V_EMPTY
  obtain ⟨gc, gR, gF, gS, n_c_R, n_c_F, n_c_S, n_R_F, n_R_S, n_F_S, Ov, E0, Fw, Fm, FR, FF, FS, AR, AF, AS⟩ := P
  refine g_aloadN C (pc' := 1) d13_0 rfl rfl rfl ?_
  refine g_getF C (pc' := 4) (wd hw 22 rfl) Via.refl d13_1 rfl FF rfl ?_
  refine g_iloadN C (pc' := 5) d13_4 rfl rfl ?_
  refine g_iaload C (pc' := 6) (x := (0 : Int32)) d13_5 rfl AF (by decide) (by decide) rfl rfl ?_
  refine g_aloadN C (pc' := 7) d13_6 rfl rfl rfl ?_
  refine g_getF C (pc' := 10) (wd hw 13 rfl) Via.refl d13_7 rfl Fw rfl ?_
  refine g_iadd C (pc' := 11) d13_10 rfl rfl ?_
  rw [show ((0 : Int32) + (1 : Int32)) = (1 : Int32) from by decide]
  refine g_istoreN C (pc' := 12) (Ls' := #[.val (.ref c), .val (.int (1 : Int32)), .val (.int (1 : Int32))]) d13_11 rfl rfl rfl ?_
  refine g_aloadN C (pc' := 13) d13_12 rfl rfl rfl ?_
  refine g_getF C (pc' := 16) (wd hw 22 rfl) Via.refl d13_13 rfl FF rfl ?_
  refine g_iloadN C (pc' := 17) d13_16 rfl rfl ?_
  refine g_iloadN C (pc' := 18) d13_17 rfl rfl ?_
  refine g_aloadN C (pc' := 19) d13_18 rfl rfl rfl ?_
  refine g_getF C (pc' := 22) (wd hw 19 rfl) Via.refl d13_19 rfl FR rfl ?_
  refine g_iloadN C (pc' := 23) d13_22 rfl rfl ?_
  refine g_aaload C (pc' := 24) (x := (.ref rg)) d13_23 rfl AR rfl (by decide) (by decide) rfl rfl ?_
  refine g_alen C (pc' := 25) d13_24 rfl Ar rfl ?_
  refine g_icN C (pc' := 28) d13_25 rfl (by decide) rfl ?_
  refine g_iconst C (pc' := 29) (v := (0 : Int32)) d13_28 (by decide) rfl ?_
  refine g_goto C (pc' := 33) d13_29 (by decide) rfl ?_
  refine g_iastore C (pc' := 34) d13_33 rfl AF (by decide) (by decide) gF rfl (fun h1151 W1152 => ?_)
  have f1153 := O.wr W1152 gF
  have f1154 := E0.wr W1152
  have f1155 := Fw.other W1152 (Or.inl n_c_F)
  have f1156 := Fm.other W1152 (Or.inl n_c_F)
  have f1157 := FR.other W1152 (Or.inl n_c_F)
  have f1158 := FF.other W1152 (Or.inl n_c_F)
  have f1159 := FS.other W1152 (Or.inl n_c_F)
  have f1160 := AR.other W1152 n_R_F
  have f1161 := (arv_put AF rfl W1152 (i := 1) rfl (Nat.le_of_ble_eq_true rfl) : Arv Z h1151 F kF .int (2 : Int32) [(.int f0), (.int (0 : Int32))] (.int (0 : Int32)))
  have f1162 := AS.other W1152 (Ne.symm n_F_S)
  have f1163 := (Keep.refl h [R, F, S]).wr W1152 (Or.inl (List.mem_of_getElem? (i := 1) rfl))
  have f1164 := Ar.other W1152 nF
  refine g_aloadN C (pc' := 35) d13_34 rfl rfl rfl ?_
  refine g_getF C (pc' := 38) (wd hw 24 rfl) Via.refl d13_35 rfl f1159 rfl ?_
  refine g_iloadN C (pc' := 39) d13_38 rfl rfl ?_
  refine g_dup2 C (pc' := 40) d13_39 rfl rfl rfl rfl ?_
  refine g_iaload C (pc' := 41) (x := (1 : Int32)) d13_40 rfl f1162 (by decide) (by decide) rfl rfl ?_
  refine g_iconst C (pc' := 42) (v := (1 : Int32)) d13_41 (by decide) rfl ?_
  refine g_isub C (pc' := 43) d13_42 rfl rfl ?_
  rw [show ((1 : Int32) - (1 : Int32)) = (0 : Int32) from by decide]
  refine g_iastore C (pc' := 44) d13_43 rfl f1162 (by decide) (by decide) gS rfl (fun h1165 W1166 => ?_)
  have f1167 := f1153.wr W1166 gS
  have f1168 := f1154.wr W1166
  have f1169 := f1155.other W1166 (Or.inl n_c_S)
  have f1170 := f1156.other W1166 (Or.inl n_c_S)
  have f1171 := f1157.other W1166 (Or.inl n_c_S)
  have f1172 := f1158.other W1166 (Or.inl n_c_S)
  have f1173 := f1159.other W1166 (Or.inl n_c_S)
  have f1174 := f1160.other W1166 n_R_S
  have f1175 := f1161.other W1166 n_F_S
  have f1176 := (arv_put f1162 rfl W1166 (i := 1) rfl (Nat.le_of_ble_eq_true rfl) : Arv Z h1165 S kS .int (2 : Int32) [(.int s0), (.int (0 : Int32))] (.int (0 : Int32)))
  have f1177 := f1163.wr W1166 (Or.inl (List.mem_of_getElem? (i := 2) rfl))
  have f1178 := f1164.other W1166 nS
  exact g_return C d13_44 rfl (Nat.le_of_ble_eq_true rfl) (Nat.le_of_ble_eq_true rfl) (⟨rfl, f1177, ⟨gc, gR, gF, gS, n_c_R, n_c_F, n_c_S, n_R_F, n_R_S, n_F_S, Ov, f1168, f1169, f1170, f1171, f1172, f1173, f1174, f1175, f1176⟩⟩)
set_option maxRecDepth 65536 in
set_option maxHeartbeats 40000000 in
theorem rem2_1_1 (l : Launch) (Z : State) (a0 : Array Value) (hw : ∀ d ∈ tables_1, d.before a0 Z = true) (n0 : Nat) (h : Heap) (O : Old Z n0 h) (s_EMPTY : Addr) (H : En Z s_EMPTY) (c R F S : Addr) (kR kF kS : ClassId) (m f0 s0 : Int32) (r0 : Value) (rg : Addr) (kJ : ClassId) (y0 y1 : Int64) (Ar : Arv Z h rg kJ .long (2 : Int32) [(.long y0), (.long y1)] (.long (0 : Int64))) (nR : rg ≠ R) (nF : rg ≠ F) (nS : rg ≠ S) (P : RC Z n0 h c R F S kR kF kS (1 : Int32) m r0 (.ref rg) f0 (0 : Int32) s0 (2 : Int32)) : Con l Z (⟨"com/example/request_throttle/requestthrottle/RingColumn", "removeFirst", "(I)V"⟩ : MethodName) prog_17_method_7_code 3 none ({ frames := 0, cells := 0, slots := 0, locals := 0 } : Room) #[(.ref c), (.int (1 : Int32))] h n0 (fun r h' => r = none ∧ Keep h h' [R, F, S] ∧ RC Z n0 h' c R F S kR kF kS (1 : Int32) m r0 (.ref rg) f0 (1 : Int32) s0 (1 : Int32)) := by
  refine Con.mk (Ls := #[.val (.ref c), .val (.int (1 : Int32)), .unset]) (plainFor_of_name pn_0) (fun m => by first | (simp [entryFrame, mkF, argsToLocals, Value.category]; done) | rfl) (fun w C => ?_)
  replace C : Cx w l Z "com/example/request_throttle/requestthrottle/RingColumn" prog_17_method_7_code 3 none "removeFirst" ({ frames := 0, cells := 0, slots := 0, locals := 0 } : Room) n0 := C
  obtain ⟨S_EMPTY, E_EMPTY, V_EMPTY⟩ := id H
  obtain ⟨kE, V_EMPTY⟩ := V_EMPTY
  obtain ⟨gc, gR, gF, gS, n_c_R, n_c_F, n_c_S, n_R_F, n_R_S, n_F_S, Ov, E0, Fw, Fm, FR, FF, FS, AR, AF, AS⟩ := P
  refine g_aloadN C (pc' := 1) d13_0 rfl rfl rfl ?_
  refine g_getF C (pc' := 4) (wd hw 22 rfl) Via.refl d13_1 rfl FF rfl ?_
  refine g_iloadN C (pc' := 5) d13_4 rfl rfl ?_
  refine g_iaload C (pc' := 6) (x := (0 : Int32)) d13_5 rfl AF (by decide) (by decide) rfl rfl ?_
  refine g_aloadN C (pc' := 7) d13_6 rfl rfl rfl ?_
  refine g_getF C (pc' := 10) (wd hw 13 rfl) Via.refl d13_7 rfl Fw rfl ?_
  refine g_iadd C (pc' := 11) d13_10 rfl rfl ?_
  rw [show ((0 : Int32) + (1 : Int32)) = (1 : Int32) from by decide]
  refine g_istoreN C (pc' := 12) (Ls' := #[.val (.ref c), .val (.int (1 : Int32)), .val (.int (1 : Int32))]) d13_11 rfl rfl rfl ?_
  refine g_aloadN C (pc' := 13) d13_12 rfl rfl rfl ?_
  refine g_getF C (pc' := 16) (wd hw 22 rfl) Via.refl d13_13 rfl FF rfl ?_
  refine g_iloadN C (pc' := 17) d13_16 rfl rfl ?_
  refine g_iloadN C (pc' := 18) d13_17 rfl rfl ?_
  refine g_aloadN C (pc' := 19) d13_18 rfl rfl rfl ?_
  refine g_getF C (pc' := 22) (wd hw 19 rfl) Via.refl d13_19 rfl FR rfl ?_
  refine g_iloadN C (pc' := 23) d13_22 rfl rfl ?_
  refine g_aaload C (pc' := 24) (x := (.ref rg)) d13_23 rfl AR rfl (by decide) (by decide) rfl rfl ?_
  refine g_alen C (pc' := 25) d13_24 rfl Ar rfl ?_
  refine g_icY C (pc' := 32) d13_25 rfl (by decide) (by decide) rfl ?_
  refine g_iloadN C (pc' := 33) d13_32 rfl rfl ?_
  refine g_iastore C (pc' := 34) d13_33 rfl AF (by decide) (by decide) gF rfl (fun h1179 W1180 => ?_)
  have f1181 := O.wr W1180 gF
  have f1182 := E0.wr W1180
  have f1183 := Fw.other W1180 (Or.inl n_c_F)
  have f1184 := Fm.other W1180 (Or.inl n_c_F)
  have f1185 := FR.other W1180 (Or.inl n_c_F)
  have f1186 := FF.other W1180 (Or.inl n_c_F)
  have f1187 := FS.other W1180 (Or.inl n_c_F)
  have f1188 := AR.other W1180 n_R_F
  have f1189 := (arv_put AF rfl W1180 (i := 1) rfl (Nat.le_of_ble_eq_true rfl) : Arv Z h1179 F kF .int (2 : Int32) [(.int f0), (.int (1 : Int32))] (.int (0 : Int32)))
  have f1190 := AS.other W1180 (Ne.symm n_F_S)
  have f1191 := (Keep.refl h [R, F, S]).wr W1180 (Or.inl (List.mem_of_getElem? (i := 1) rfl))
  have f1192 := Ar.other W1180 nF
  refine g_aloadN C (pc' := 35) d13_34 rfl rfl rfl ?_
  refine g_getF C (pc' := 38) (wd hw 24 rfl) Via.refl d13_35 rfl f1187 rfl ?_
  refine g_iloadN C (pc' := 39) d13_38 rfl rfl ?_
  refine g_dup2 C (pc' := 40) d13_39 rfl rfl rfl rfl ?_
  refine g_iaload C (pc' := 41) (x := (2 : Int32)) d13_40 rfl f1190 (by decide) (by decide) rfl rfl ?_
  refine g_iconst C (pc' := 42) (v := (1 : Int32)) d13_41 (by decide) rfl ?_
  refine g_isub C (pc' := 43) d13_42 rfl rfl ?_
  rw [show ((2 : Int32) - (1 : Int32)) = (1 : Int32) from by decide]
  refine g_iastore C (pc' := 44) d13_43 rfl f1190 (by decide) (by decide) gS rfl (fun h1193 W1194 => ?_)
  have f1195 := f1181.wr W1194 gS
  have f1196 := f1182.wr W1194
  have f1197 := f1183.other W1194 (Or.inl n_c_S)
  have f1198 := f1184.other W1194 (Or.inl n_c_S)
  have f1199 := f1185.other W1194 (Or.inl n_c_S)
  have f1200 := f1186.other W1194 (Or.inl n_c_S)
  have f1201 := f1187.other W1194 (Or.inl n_c_S)
  have f1202 := f1188.other W1194 n_R_S
  have f1203 := f1189.other W1194 n_F_S
  have f1204 := (arv_put f1190 rfl W1194 (i := 1) rfl (Nat.le_of_ble_eq_true rfl) : Arv Z h1193 S kS .int (2 : Int32) [(.int s0), (.int (1 : Int32))] (.int (0 : Int32)))
  have f1205 := f1191.wr W1194 (Or.inl (List.mem_of_getElem? (i := 2) rfl))
  have f1206 := f1192.other W1194 nS
  exact g_return C d13_44 rfl (Nat.le_of_ble_eq_true rfl) (Nat.le_of_ble_eq_true rfl) (⟨rfl, f1205, ⟨gc, gR, gF, gS, n_c_R, n_c_F, n_c_S, n_R_F, n_R_S, n_F_S, Ov, f1196, f1197, f1198, f1199, f1200, f1201, f1202, f1203, f1204⟩⟩)
set_option maxRecDepth 65536 in
set_option maxHeartbeats 40000000 in
theorem start_1_2_0 (l : Launch) (Z : State) (a0 : Array Value) (hw : ∀ d ∈ tables_1, d.before a0 Z = true) (n0 : Nat) (h : Heap) (O : Old Z n0 h) (s_EMPTY : Addr) (H : En Z s_EMPTY) (c R F S : Addr) (kR kF kS : ClassId) (m f0 s0 s1 : Int32) (r0 r1 : Value) (rg : Addr) (kJ : ClassId) (y0 y1 : Int64) (Ar : Arv Z h rg kJ .long (2 : Int32) [(.long y0), (.long y1)] (.long (0 : Int64))) (P : RC Z n0 h c R F S kR kF kS (2 : Int32) m r0 r1 f0 (0 : Int32) s0 s1) : Con l Z (⟨"com/example/request_throttle/requestthrottle/RingColumn", "start", "([JII)I"⟩ : MethodName) prog_17_method_9_code 5 (some .int) ({ frames := 0, cells := 0, slots := 0, locals := 0 } : Room) #[(.ref c), (.ref rg), (.int (1 : Int32)), (.int (0 : Int32))] h n0 (fun r h' => r = some (.int (0 : Int32)) ∧ h' = h) := by
  refine Con.mk (Ls := #[.val (.ref c), .val (.ref rg), .val (.int (1 : Int32)), .val (.int (0 : Int32)), .unset]) (plainFor_of_name pn_0) (fun m => by first | (simp [entryFrame, mkF, argsToLocals, Value.category]; done) | rfl) (fun w C => ?_)
  replace C : Cx w l Z "com/example/request_throttle/requestthrottle/RingColumn" prog_17_method_9_code 5 (some .int) "start" ({ frames := 0, cells := 0, slots := 0, locals := 0 } : Room) n0 := C
  obtain ⟨S_EMPTY, E_EMPTY, V_EMPTY⟩ := id H
  obtain ⟨kE, V_EMPTY⟩ := V_EMPTY
  obtain ⟨gc, gR, gF, gS, n_c_R, n_c_F, n_c_S, n_R_F, n_R_S, n_F_S, Ov, E0, Fw, Fm, FR, FF, FS, AR, AF, AS⟩ := P
  refine g_aloadN C (pc' := 1) d10_0 rfl rfl rfl ?_
  refine g_getF C (pc' := 4) (wd hw 22 rfl) Via.refl d10_1 rfl FF rfl ?_
  refine g_iloadN C (pc' := 5) d10_4 rfl rfl ?_
  refine g_iaload C (pc' := 6) (x := (0 : Int32)) d10_5 rfl AF (by decide) (by decide) rfl rfl ?_
  refine g_iloadN C (pc' := 7) d10_6 rfl rfl ?_
  refine g_aloadN C (pc' := 8) d10_7 rfl rfl rfl ?_
  refine g_getF C (pc' := 11) (wd hw 13 rfl) Via.refl d10_8 rfl Fw rfl ?_
  refine g_imul C (pc' := 12) d10_11 rfl rfl ?_
  rw [show ((0 : Int32) * (2 : Int32)) = (0 : Int32) from by decide]
  refine g_iadd C (pc' := 13) d10_12 rfl rfl ?_
  rw [show ((0 : Int32) + (0 : Int32)) = (0 : Int32) from by decide]
  refine g_istore C (pc' := 15) (Ls' := #[.val (.ref c), .val (.ref rg), .val (.int (1 : Int32)), .val (.int (0 : Int32)), .val (.int (0 : Int32))]) d10_13 rfl rfl rfl ?_
  refine g_iload C (pc' := 17) d10_15 rfl rfl ?_
  refine g_aloadN C (pc' := 18) d10_17 rfl rfl rfl ?_
  refine g_alen C (pc' := 19) d10_18 rfl Ar rfl ?_
  refine g_icN C (pc' := 22) d10_19 rfl (by decide) rfl ?_
  refine g_iload C (pc' := 24) d10_22 rfl rfl ?_
  refine g_goto C (pc' := 32) d10_24 (by decide) rfl ?_
  exact g_ireturn C d10_32 rfl (Nat.le_of_ble_eq_true rfl) (Nat.le_of_ble_eq_true rfl) (⟨rfl, rfl⟩)
set_option maxRecDepth 65536 in
set_option maxHeartbeats 40000000 in
theorem start_1_2_1b (l : Launch) (Z : State) (a0 : Array Value) (hw : ∀ d ∈ tables_1, d.before a0 Z = true) (n0 : Nat) (h : Heap) (O : Old Z n0 h) (s_EMPTY : Addr) (H : En Z s_EMPTY) (c R F S : Addr) (kR kF kS : ClassId) (m f0 s0 s1 : Int32) (r0 r1 : Value) (rg : Addr) (kJ : ClassId) (y0 y1 y2 y3 : Int64) (Ar : Arv Z h rg kJ .long (4 : Int32) [(.long y0), (.long y1), (.long y2), (.long y3)] (.long (0 : Int64))) (P : RC Z n0 h c R F S kR kF kS (2 : Int32) m r0 r1 f0 (0 : Int32) s0 s1) : Con l Z (⟨"com/example/request_throttle/requestthrottle/RingColumn", "start", "([JII)I"⟩ : MethodName) prog_17_method_9_code 5 (some .int) ({ frames := 0, cells := 0, slots := 0, locals := 0 } : Room) #[(.ref c), (.ref rg), (.int (1 : Int32)), (.int (1 : Int32))] h n0 (fun r h' => r = some (.int (2 : Int32)) ∧ h' = h) := by
  refine Con.mk (Ls := #[.val (.ref c), .val (.ref rg), .val (.int (1 : Int32)), .val (.int (1 : Int32)), .unset]) (plainFor_of_name pn_0) (fun m => by first | (simp [entryFrame, mkF, argsToLocals, Value.category]; done) | rfl) (fun w C => ?_)
  replace C : Cx w l Z "com/example/request_throttle/requestthrottle/RingColumn" prog_17_method_9_code 5 (some .int) "start" ({ frames := 0, cells := 0, slots := 0, locals := 0 } : Room) n0 := C
  obtain ⟨S_EMPTY, E_EMPTY, V_EMPTY⟩ := id H
  obtain ⟨kE, V_EMPTY⟩ := V_EMPTY
  obtain ⟨gc, gR, gF, gS, n_c_R, n_c_F, n_c_S, n_R_F, n_R_S, n_F_S, Ov, E0, Fw, Fm, FR, FF, FS, AR, AF, AS⟩ := P
  refine g_aloadN C (pc' := 1) d10_0 rfl rfl rfl ?_
  refine g_getF C (pc' := 4) (wd hw 22 rfl) Via.refl d10_1 rfl FF rfl ?_
  refine g_iloadN C (pc' := 5) d10_4 rfl rfl ?_
  refine g_iaload C (pc' := 6) (x := (0 : Int32)) d10_5 rfl AF (by decide) (by decide) rfl rfl ?_
  refine g_iloadN C (pc' := 7) d10_6 rfl rfl ?_
  refine g_aloadN C (pc' := 8) d10_7 rfl rfl rfl ?_
  refine g_getF C (pc' := 11) (wd hw 13 rfl) Via.refl d10_8 rfl Fw rfl ?_
  refine g_imul C (pc' := 12) d10_11 rfl rfl ?_
  rw [show ((1 : Int32) * (2 : Int32)) = (2 : Int32) from by decide]
  refine g_iadd C (pc' := 13) d10_12 rfl rfl ?_
  rw [show ((0 : Int32) + (2 : Int32)) = (2 : Int32) from by decide]
  refine g_istore C (pc' := 15) (Ls' := #[.val (.ref c), .val (.ref rg), .val (.int (1 : Int32)), .val (.int (1 : Int32)), .val (.int (2 : Int32))]) d10_13 rfl rfl rfl ?_
  refine g_iload C (pc' := 17) d10_15 rfl rfl ?_
  refine g_aloadN C (pc' := 18) d10_17 rfl rfl rfl ?_
  refine g_alen C (pc' := 19) d10_18 rfl Ar rfl ?_
  refine g_icN C (pc' := 22) d10_19 rfl (by decide) rfl ?_
  refine g_iload C (pc' := 24) d10_22 rfl rfl ?_
  refine g_goto C (pc' := 32) d10_24 (by decide) rfl ?_
  exact g_ireturn C d10_32 rfl (Nat.le_of_ble_eq_true rfl) (Nat.le_of_ble_eq_true rfl) (⟨rfl, rfl⟩)
set_option maxRecDepth 65536 in
set_option maxHeartbeats 40000000 in
theorem grow0_1_2 (l : Launch) (Z : State) (a0 : Array Value) (hw : ∀ d ∈ tables_1, d.before a0 Z = true) (n0 : Nat) (h : Heap) (O : Old Z n0 h) (s_EMPTY : Addr) (H : En Z s_EMPTY) (c R F S : Addr) (kR kF kS : ClassId) (m f0 s0 : Int32) (r0 : Value) (hm : ¬ m.toInt64 < (1 : Int64)) (P : RC Z n0 h c R F S kR kF kS (2 : Int32) m r0 (.ref s_EMPTY) f0 (0 : Int32) s0 (0 : Int32)) : Con l Z (⟨"com/example/request_throttle/requestthrottle/RingColumn", "grow", "(I)[J"⟩ : MethodName) prog_17_method_10_code 7 (some (.array .long)) ({ frames := 1, cells := 1, slots := 2, locals := 18 } : Room) #[(.ref c), (.int (1 : Int32))] h n0 (fun r h' => ∃ g kJ, r = some (.ref g) ∧ h.size ≤ g ∧ Keep h h' [R, F, S] ∧ Arv Z h' g kJ .long (2 : Int32) [(.long (0 : Int64)), (.long (0 : Int64))] (.long (0 : Int64)) ∧ RC Z n0 h' c R F S kR kF kS (2 : Int32) m r0 (.ref g) f0 (0 : Int32) s0 (0 : Int32)) := by
  refine Con.mk (Ls := #[.val (.ref c), .val (.int (1 : Int32)), .unset, .unset, .unset, .unset, .unset]) (plainFor_of_name pn_0) (fun m => by first | (simp [entryFrame, mkF, argsToLocals, Value.category]; done) | rfl) (fun w C => ?_)
  replace C : Cx w l Z "com/example/request_throttle/requestthrottle/RingColumn" prog_17_method_10_code 7 (some (.array .long)) "grow" ({ frames := 1, cells := 1, slots := 2, locals := 18 } : Room) n0 := C
  obtain ⟨S_EMPTY, E_EMPTY, V_EMPTY⟩ := id H
  obtain ⟨kE, V_EMPTY⟩ := V_EMPTY
  obtain ⟨gc, gR, gF, gS, n_c_R, n_c_F, n_c_S, n_R_F, n_R_S, n_F_S, Ov, E0, Fw, Fm, FR, FF, FS, AR, AF, AS⟩ := P
  refine g_aloadN C (pc' := 1) d6_0 rfl rfl rfl ?_
  refine g_getF C (pc' := 4) (wd hw 19 rfl) Via.refl d6_1 rfl FR rfl ?_
  refine g_iloadN C (pc' := 5) d6_4 rfl rfl ?_
  refine g_aaload C (pc' := 6) (x := (.ref s_EMPTY)) d6_5 rfl AR rfl (by decide) (by decide) rfl rfl ?_
  refine g_astoreN C (pc' := 7) (Ls' := #[.val (.ref c), .val (.int (1 : Int32)), .val (.ref s_EMPTY), .unset, .unset, .unset, .unset]) d6_6 rfl rfl rfl rfl ?_
  refine g_lconst C (pc' := 8) (v := (1 : Int64)) d6_7 (by decide) rfl ?_
  refine g_ldc2Long C (pc' := 11) (wd hw 43 rfl) d6_8 rfl ?_
  refine g_aloadN C (pc' := 12) d6_11 rfl rfl rfl ?_
  refine g_alen C (pc' := 13) d6_12 rfl (V_EMPTY.ext O.2) rfl ?_
  refine g_i2l C (pc' := 14) d6_13 rfl rfl ?_
  rw [show (0 : Int32).toInt64 = (0 : Int64) from by decide]
  refine g_lmul C (pc' := 15) d6_14 rfl rfl ?_
  rw [show ((2 : Int64) * (0 : Int64)) = (0 : Int64) from by decide]
  refine g_aloadN C (pc' := 16) d6_15 rfl rfl rfl ?_
  refine g_getF C (pc' := 19) (wd hw 13 rfl) Via.refl d6_16 rfl Fw rfl ?_
  refine g_i2l C (pc' := 20) d6_19 rfl rfl ?_
  rw [show (2 : Int32).toInt64 = (2 : Int64) from by decide]
  refine g_ldiv C (pc' := 21) d6_20 rfl (by decide) rfl ?_
  rw [show ((0 : Int64) / (2 : Int64)) = (0 : Int64) from by decide]
  refine g_callS C (pc' := 24) (k' := 0) (n' := 0) (argsL := [(.long (1 : Int64)), (.long (0 : Int64))]) (rest := []) (wd hw 44 rfl) (wd hw 45 rfl) (wd hw 2 rfl) (wd hw 46 rfl) (by decide) d6_21 pd_6 rfl rfl rfl (max_1_0 l Z a0 hw n0 h O s_EMPTY H) (Nat.le_of_ble_eq_true rfl) (Nat.le_of_ble_eq_true rfl) (Nat.le_of_ble_eq_true rfl) (Nat.le_of_ble_eq_true rfl) rfl rfl rfl (fun v1208 h1207 q1209 => ?_)
  obtain ⟨rfl, eh1207⟩ := q1209
  subst h1207
  show G w _ h 0 0 24 #[.val (.ref c), .val (.int (1 : Int32)), .val (.ref s_EMPTY), .unset, .unset, .unset, .unset] [(.long (1 : Int64))]
  refine g_aloadN C (pc' := 25) d6_24 rfl rfl rfl ?_
  refine g_getF C (pc' := 28) (wd hw 15 rfl) Via.refl d6_25 rfl Fm rfl ?_
  refine g_i2l C (pc' := 29) d6_28 rfl rfl ?_
  refine g_callS C (pc' := 32) (k' := 0) (n' := 0) (argsL := [(.long (1 : Int64)), (.long m.toInt64)]) (rest := []) (wd hw 47 rfl) (wd hw 48 rfl) (wd hw 2 rfl) (wd hw 49 rfl) (by decide) d6_29 pd_6 rfl rfl rfl (min_1 l Z a0 hw n0 h O s_EMPTY H m hm) (Nat.le_of_ble_eq_true rfl) (Nat.le_of_ble_eq_true rfl) (Nat.le_of_ble_eq_true rfl) (Nat.le_of_ble_eq_true rfl) rfl rfl rfl (fun v1211 h1210 q1212 => ?_)
  obtain ⟨rfl, eh1210⟩ := q1212
  subst h1210
  show G w _ h 0 0 32 #[.val (.ref c), .val (.int (1 : Int32)), .val (.ref s_EMPTY), .unset, .unset, .unset, .unset] [(.long (1 : Int64))]
  refine g_lstoreN C (pc' := 33) (Ls' := #[.val (.ref c), .val (.int (1 : Int32)), .val (.ref s_EMPTY), .val (.long (1 : Int64)), .second, .unset, .unset]) d6_32 rfl rfl rfl ?_
  refine g_lloadN C (pc' := 34) d6_33 rfl rfl ?_
  refine g_aloadN C (pc' := 35) d6_34 rfl rfl rfl ?_
  refine g_getF C (pc' := 38) (wd hw 13 rfl) Via.refl d6_35 rfl Fw rfl ?_
  refine g_i2l C (pc' := 39) d6_38 rfl rfl ?_
  rw [show (2 : Int32).toInt64 = (2 : Int64) from by decide]
  refine g_lmul C (pc' := 40) d6_39 rfl rfl ?_
  rw [show ((1 : Int64) * (2 : Int64)) = (2 : Int64) from by decide]
  refine g_callS C (pc' := 43) (k' := 0) (n' := 0) (argsL := [(.long (2 : Int64))]) (rest := []) (wd hw 50 rfl) (wd hw 51 rfl) (wd hw 2 rfl) (wd hw 52 rfl) (by decide) d6_40 pd_7 rfl rfl rfl (tie_2 l Z a0 hw n0 h O s_EMPTY H) (Nat.le_of_ble_eq_true rfl) (Nat.le_of_ble_eq_true rfl) (Nat.le_of_ble_eq_true rfl) (Nat.le_of_ble_eq_true rfl) rfl rfl rfl (fun v1214 h1213 q1215 => ?_)
  obtain ⟨rfl, eh1213⟩ := q1215
  subst h1213
  show G w _ h 0 0 43 #[.val (.ref c), .val (.int (1 : Int32)), .val (.ref s_EMPTY), .val (.long (1 : Int64)), .second, .unset, .unset] [(.int (2 : Int32))]
  refine g_newPE C (pc' := 45) (k' := 1) (n' := 2) (cap := 2) (ad := "[J") (wd hw 53 rfl) (by decide) d6_43 rfl (by decide) (by decide) (by decide) (by decide) (by decide) rfl rfl rfl (fun h1216 b1217 kA1218 ex1219 E1220 A1221 B1222 => ?_)
  have ne_c_b1217 : c ≠ b1217 := Nat.ne_of_lt (by rw [ex1219]; exact E0.lt)
  have ne_R_b1217 : R ≠ b1217 := Nat.ne_of_lt (by rw [ex1219]; exact AR.lt)
  have ne_F_b1217 : F ≠ b1217 := Nat.ne_of_lt (by rw [ex1219]; exact AF.lt)
  have ne_S_b1217 : S ≠ b1217 := Nat.ne_of_lt (by rw [ex1219]; exact AS.lt)
  have ne_s_EMPTY_b1217 : s_EMPTY ≠ b1217 := Nat.ne_of_lt (by rw [ex1219]; exact (V_EMPTY.ext O.2).lt)
  have ge_b1217 : n0 ≤ b1217 := by rw [ex1219]; exact O.1 ▸ O.2.1
  have sz_b1217 : h.size ≤ b1217 := by rw [ex1219]; exact (Keep.refl h [R, F, S]).1
  have f1223 := O.ext E1220
  have f1224 := E0.ext E1220
  have f1225 := Fw.ext E1220
  have f1226 := Fm.ext E1220
  have f1227 := FR.ext E1220
  have f1228 := FF.ext E1220
  have f1229 := FS.ext E1220
  have f1230 := AR.ext E1220
  have f1231 := AF.ext E1220
  have f1232 := AS.ext E1220
  have f1233 := (Keep.refl h [R, F, S]).ext E1220
  have f1234 := (V_EMPTY.ext O.2).ext E1220
  have A1235 : Arv Z h1216 b1217 kA1218 .long (2 : Int32) [(.long (0 : Int64)), (.long (0 : Int64))] (.long (0 : Int64)) := A1221.pad (pad_rep [] (.long (0 : Int64)) 2)
  refine g_astore C (pc' := 47) (Ls' := #[.val (.ref c), .val (.int (1 : Int32)), .val (.ref s_EMPTY), .val (.long (1 : Int64)), .second, .val (.ref b1217), .unset]) d6_45 rfl rfl rfl rfl ?_
  refine g_aloadN C (pc' := 48) d6_47 rfl rfl rfl ?_
  refine g_getF C (pc' := 51) (wd hw 22 rfl) Via.refl d6_48 rfl f1228 rfl ?_
  refine g_iloadN C (pc' := 52) d6_51 rfl rfl ?_
  refine g_iaload C (pc' := 53) (x := (0 : Int32)) d6_52 rfl f1231 (by decide) (by decide) rfl rfl ?_
  refine g_istore C (pc' := 55) (Ls' := #[.val (.ref c), .val (.int (1 : Int32)), .val (.ref s_EMPTY), .val (.long (1 : Int64)), .second, .val (.ref b1217), .val (.int (0 : Int32))]) d6_53 rfl rfl rfl ?_
  refine g_aloadN C (pc' := 56) d6_55 rfl rfl rfl ?_
  refine g_iload C (pc' := 58) d6_56 rfl rfl ?_
  refine g_aload C (pc' := 60) d6_58 rfl rfl rfl ?_
  refine g_iconst C (pc' := 61) (v := (0 : Int32)) d6_60 (by decide) rfl ?_
  refine g_aloadN C (pc' := 62) d6_61 rfl rfl rfl ?_
  refine g_alen C (pc' := 63) d6_62 rfl f1234 rfl ?_
  refine g_iload C (pc' := 65) d6_63 rfl rfl ?_
  refine g_isub C (pc' := 66) d6_65 rfl rfl ?_
  rw [show ((0 : Int32) - (0 : Int32)) = (0 : Int32) from by decide]
  refine g_cpA C (pc' := 69) (us := []) (wd hw 54 rfl) (wd hw 57 rfl) (wd hw 55 rfl) (wd hw 56 rfl) d6_66 rfl rfl f1234 A1235 (Or.inl ⟨rfl, rfl⟩) (by decide) (by decide) (by decide) (Nat.le_of_ble_eq_true rfl) (Nat.le_of_ble_eq_true rfl) rfl (Nat.le_of_ble_eq_true rfl) ge_b1217 (Nat.le_of_ble_eq_true rfl) (Nat.le_of_ble_eq_true rfl) rfl (fun h1236 K1237 A1238 => ?_)
  have f1239 := f1223.keep K1237 (allS ge_b1217 all0)
  have f1240 := f1224.keep K1237
  have f1241 := f1225.keep K1237 (ninS ne_c_b1217 nin0)
  have f1242 := f1226.keep K1237 (ninS ne_c_b1217 nin0)
  have f1243 := f1227.keep K1237 (ninS ne_c_b1217 nin0)
  have f1244 := f1228.keep K1237 (ninS ne_c_b1217 nin0)
  have f1245 := f1229.keep K1237 (ninS ne_c_b1217 nin0)
  have f1246 := f1230.keep K1237 (ninS ne_R_b1217 nin0)
  have f1247 := f1231.keep K1237 (ninS ne_F_b1217 nin0)
  have f1248 := f1232.keep K1237 (ninS ne_S_b1217 nin0)
  have f1249 := f1233.trans K1237 (allS (Or.inr sz_b1217) all0)
  have f1250 := f1234.keep K1237 (ninS ne_s_EMPTY_b1217 nin0)
  have f1251 := B1222.keep K1237
  have A1252 : Arv Z h1236 b1217 kA1218 .long (2 : Int32) [(.long (0 : Int64)), (.long (0 : Int64))] (.long (0 : Int64)) := A1238
  refine g_aloadN C (pc' := 70) d6_69 rfl rfl rfl ?_
  refine g_iconst C (pc' := 71) (v := (0 : Int32)) d6_70 (by decide) rfl ?_
  refine g_aload C (pc' := 73) d6_71 rfl rfl rfl ?_
  refine g_aloadN C (pc' := 74) d6_73 rfl rfl rfl ?_
  refine g_alen C (pc' := 75) d6_74 rfl f1250 rfl ?_
  refine g_iload C (pc' := 77) d6_75 rfl rfl ?_
  refine g_isub C (pc' := 78) d6_77 rfl rfl ?_
  rw [show ((0 : Int32) - (0 : Int32)) = (0 : Int32) from by decide]
  refine g_iload C (pc' := 80) d6_78 rfl rfl ?_
  refine g_cpA C (pc' := 83) (us := []) (wd hw 54 rfl) (wd hw 57 rfl) (wd hw 55 rfl) (wd hw 56 rfl) d6_80 rfl rfl f1250 A1252 (Or.inl ⟨rfl, rfl⟩) (by decide) (by decide) (by decide) (Nat.le_of_ble_eq_true rfl) (Nat.le_of_ble_eq_true rfl) rfl (Nat.le_of_ble_eq_true rfl) ge_b1217 (Nat.le_of_ble_eq_true rfl) (Nat.le_of_ble_eq_true rfl) rfl (fun h1253 K1254 A1255 => ?_)
  have f1256 := f1239.keep K1254 (allS ge_b1217 all0)
  have f1257 := f1240.keep K1254
  have f1258 := f1241.keep K1254 (ninS ne_c_b1217 nin0)
  have f1259 := f1242.keep K1254 (ninS ne_c_b1217 nin0)
  have f1260 := f1243.keep K1254 (ninS ne_c_b1217 nin0)
  have f1261 := f1244.keep K1254 (ninS ne_c_b1217 nin0)
  have f1262 := f1245.keep K1254 (ninS ne_c_b1217 nin0)
  have f1263 := f1246.keep K1254 (ninS ne_R_b1217 nin0)
  have f1264 := f1247.keep K1254 (ninS ne_F_b1217 nin0)
  have f1265 := f1248.keep K1254 (ninS ne_S_b1217 nin0)
  have f1266 := f1249.trans K1254 (allS (Or.inr sz_b1217) all0)
  have f1267 := f1250.keep K1254 (ninS ne_s_EMPTY_b1217 nin0)
  have f1268 := f1251.keep K1254
  have A1269 : Arv Z h1253 b1217 kA1218 .long (2 : Int32) [(.long (0 : Int64)), (.long (0 : Int64))] (.long (0 : Int64)) := A1255
  refine g_aloadN C (pc' := 84) d6_83 rfl rfl rfl ?_
  refine g_getF C (pc' := 87) (wd hw 19 rfl) Via.refl d6_84 rfl f1260 rfl ?_
  refine g_iloadN C (pc' := 88) d6_87 rfl rfl ?_
  refine g_aload C (pc' := 90) d6_88 rfl rfl rfl ?_
  refine g_aastore C (pc' := 91) d6_90 rfl f1263 rfl (stoA f1263 Ov f1268) (by decide) (by decide) gR rfl (fun h1270 W1271 => ?_)
  have f1272 := f1256.wr W1271 gR
  have f1273 := f1257.wr W1271
  have f1274 := f1258.other W1271 (Or.inl n_c_R)
  have f1275 := f1259.other W1271 (Or.inl n_c_R)
  have f1276 := f1260.other W1271 (Or.inl n_c_R)
  have f1277 := f1261.other W1271 (Or.inl n_c_R)
  have f1278 := f1262.other W1271 (Or.inl n_c_R)
  have f1279 := (arv_put f1263 rfl W1271 (i := 1) rfl (Nat.le_of_ble_eq_true rfl) : Arv Z h1270 R kR (.array .long) (2 : Int32) [r0, (.ref b1217)] .null)
  have f1280 := f1264.other W1271 (Ne.symm n_R_F)
  have f1281 := f1265.other W1271 (Ne.symm n_R_S)
  have f1282 := f1266.wr W1271 (Or.inl (List.mem_of_getElem? (i := 0) rfl))
  have f1283 := f1267.other W1271 (own_old O V_EMPTY.lt gR)
  have f1284 := f1268.wr W1271
  have f1285 := A1269.other W1271 (Ne.symm ne_R_b1217)
  refine g_aloadN C (pc' := 92) d6_91 rfl rfl rfl ?_
  refine g_getF C (pc' := 95) (wd hw 22 rfl) Via.refl d6_92 rfl f1277 rfl ?_
  refine g_iloadN C (pc' := 96) d6_95 rfl rfl ?_
  refine g_iconst C (pc' := 97) (v := (0 : Int32)) d6_96 (by decide) rfl ?_
  refine g_iastore C (pc' := 98) d6_97 rfl f1280 (by decide) (by decide) gF rfl (fun h1286 W1287 => ?_)
  have f1288 := f1272.wr W1287 gF
  have f1289 := f1273.wr W1287
  have f1290 := f1274.other W1287 (Or.inl n_c_F)
  have f1291 := f1275.other W1287 (Or.inl n_c_F)
  have f1292 := f1276.other W1287 (Or.inl n_c_F)
  have f1293 := f1277.other W1287 (Or.inl n_c_F)
  have f1294 := f1278.other W1287 (Or.inl n_c_F)
  have f1295 := f1279.other W1287 n_R_F
  have f1296 := (arv_put f1280 rfl W1287 (i := 1) rfl (Nat.le_of_ble_eq_true rfl) : Arv Z h1286 F kF .int (2 : Int32) [(.int f0), (.int (0 : Int32))] (.int (0 : Int32)))
  have f1297 := f1281.other W1287 (Ne.symm n_F_S)
  have f1298 := f1282.wr W1287 (Or.inl (List.mem_of_getElem? (i := 1) rfl))
  have f1299 := f1283.other W1287 (own_old O V_EMPTY.lt gF)
  have f1300 := f1284.wr W1287
  have f1301 := f1285.other W1287 (Ne.symm ne_F_b1217)
  refine g_aload C (pc' := 100) d6_98 rfl rfl rfl ?_
  exact g_areturn C d6_100 rfl rfl rfl rfl (Nat.le_of_ble_eq_true rfl) (Nat.le_of_ble_eq_true rfl) (⟨b1217, kA1218, rfl, sz_b1217, f1298, f1301, ⟨gc, gR, gF, gS, n_c_R, n_c_F, n_c_S, n_R_F, n_R_S, n_F_S, Ov, f1289, f1290, f1291, f1292, f1293, f1294, f1295, f1296, f1297⟩⟩)
set_option maxRecDepth 65536 in
set_option maxHeartbeats 40000000 in
theorem grow1_1_2 (l : Launch) (Z : State) (a0 : Array Value) (hw : ∀ d ∈ tables_1, d.before a0 Z = true) (n0 : Nat) (h : Heap) (O : Old Z n0 h) (s_EMPTY : Addr) (H : En Z s_EMPTY) (c R F S : Addr) (kR kF kS : ClassId) (m f0 s0 : Int32) (r0 : Value) (rg : Addr) (grg : n0 ≤ rg) (kJ : ClassId) (y0 y1 : Int64) (Ar : Arv Z h rg kJ .long (2 : Int32) [(.long y0), (.long y1)] (.long (0 : Int64))) (nR : rg ≠ R) (nF : rg ≠ F) (nS : rg ≠ S) (hm : ¬ m.toInt64 < (2 : Int64)) (P : RC Z n0 h c R F S kR kF kS (2 : Int32) m r0 (.ref rg) f0 (0 : Int32) s0 (1 : Int32)) : Con l Z (⟨"com/example/request_throttle/requestthrottle/RingColumn", "grow", "(I)[J"⟩ : MethodName) prog_17_method_10_code 7 (some (.array .long)) ({ frames := 1, cells := 1, slots := 4, locals := 18 } : Room) #[(.ref c), (.int (1 : Int32))] h n0 (fun r h' => ∃ g kJ, r = some (.ref g) ∧ h.size ≤ g ∧ Keep h h' [R, F, S] ∧ Arv Z h' g kJ .long (4 : Int32) [(.long y0), (.long y1), (.long (0 : Int64)), (.long (0 : Int64))] (.long (0 : Int64)) ∧ RC Z n0 h' c R F S kR kF kS (2 : Int32) m r0 (.ref g) f0 (0 : Int32) s0 (1 : Int32)) := by
  refine Con.mk (Ls := #[.val (.ref c), .val (.int (1 : Int32)), .unset, .unset, .unset, .unset, .unset]) (plainFor_of_name pn_0) (fun m => by first | (simp [entryFrame, mkF, argsToLocals, Value.category]; done) | rfl) (fun w C => ?_)
  replace C : Cx w l Z "com/example/request_throttle/requestthrottle/RingColumn" prog_17_method_10_code 7 (some (.array .long)) "grow" ({ frames := 1, cells := 1, slots := 4, locals := 18 } : Room) n0 := C
  obtain ⟨S_EMPTY, E_EMPTY, V_EMPTY⟩ := id H
  obtain ⟨kE, V_EMPTY⟩ := V_EMPTY
  obtain ⟨gc, gR, gF, gS, n_c_R, n_c_F, n_c_S, n_R_F, n_R_S, n_F_S, Ov, E0, Fw, Fm, FR, FF, FS, AR, AF, AS⟩ := P
  refine g_aloadN C (pc' := 1) d6_0 rfl rfl rfl ?_
  refine g_getF C (pc' := 4) (wd hw 19 rfl) Via.refl d6_1 rfl FR rfl ?_
  refine g_iloadN C (pc' := 5) d6_4 rfl rfl ?_
  refine g_aaload C (pc' := 6) (x := (.ref rg)) d6_5 rfl AR rfl (by decide) (by decide) rfl rfl ?_
  refine g_astoreN C (pc' := 7) (Ls' := #[.val (.ref c), .val (.int (1 : Int32)), .val (.ref rg), .unset, .unset, .unset, .unset]) d6_6 rfl rfl rfl rfl ?_
  refine g_lconst C (pc' := 8) (v := (1 : Int64)) d6_7 (by decide) rfl ?_
  refine g_ldc2Long C (pc' := 11) (wd hw 43 rfl) d6_8 rfl ?_
  refine g_aloadN C (pc' := 12) d6_11 rfl rfl rfl ?_
  refine g_alen C (pc' := 13) d6_12 rfl Ar rfl ?_
  refine g_i2l C (pc' := 14) d6_13 rfl rfl ?_
  rw [show (2 : Int32).toInt64 = (2 : Int64) from by decide]
  refine g_lmul C (pc' := 15) d6_14 rfl rfl ?_
  rw [show ((2 : Int64) * (2 : Int64)) = (4 : Int64) from by decide]
  refine g_aloadN C (pc' := 16) d6_15 rfl rfl rfl ?_
  refine g_getF C (pc' := 19) (wd hw 13 rfl) Via.refl d6_16 rfl Fw rfl ?_
  refine g_i2l C (pc' := 20) d6_19 rfl rfl ?_
  rw [show (2 : Int32).toInt64 = (2 : Int64) from by decide]
  refine g_ldiv C (pc' := 21) d6_20 rfl (by decide) rfl ?_
  rw [show ((4 : Int64) / (2 : Int64)) = (2 : Int64) from by decide]
  refine g_callS C (pc' := 24) (k' := 0) (n' := 0) (argsL := [(.long (1 : Int64)), (.long (2 : Int64))]) (rest := []) (wd hw 44 rfl) (wd hw 45 rfl) (wd hw 2 rfl) (wd hw 46 rfl) (by decide) d6_21 pd_6 rfl rfl rfl (max_1_2 l Z a0 hw n0 h O s_EMPTY H) (Nat.le_of_ble_eq_true rfl) (Nat.le_of_ble_eq_true rfl) (Nat.le_of_ble_eq_true rfl) (Nat.le_of_ble_eq_true rfl) rfl rfl rfl (fun v1303 h1302 q1304 => ?_)
  obtain ⟨rfl, eh1302⟩ := q1304
  subst h1302
  show G w _ h 0 0 24 #[.val (.ref c), .val (.int (1 : Int32)), .val (.ref rg), .unset, .unset, .unset, .unset] [(.long (2 : Int64))]
  refine g_aloadN C (pc' := 25) d6_24 rfl rfl rfl ?_
  refine g_getF C (pc' := 28) (wd hw 15 rfl) Via.refl d6_25 rfl Fm rfl ?_
  refine g_i2l C (pc' := 29) d6_28 rfl rfl ?_
  refine g_callS C (pc' := 32) (k' := 0) (n' := 0) (argsL := [(.long (2 : Int64)), (.long m.toInt64)]) (rest := []) (wd hw 47 rfl) (wd hw 48 rfl) (wd hw 2 rfl) (wd hw 49 rfl) (by decide) d6_29 pd_6 rfl rfl rfl (min_2 l Z a0 hw n0 h O s_EMPTY H m hm) (Nat.le_of_ble_eq_true rfl) (Nat.le_of_ble_eq_true rfl) (Nat.le_of_ble_eq_true rfl) (Nat.le_of_ble_eq_true rfl) rfl rfl rfl (fun v1306 h1305 q1307 => ?_)
  obtain ⟨rfl, eh1305⟩ := q1307
  subst h1305
  show G w _ h 0 0 32 #[.val (.ref c), .val (.int (1 : Int32)), .val (.ref rg), .unset, .unset, .unset, .unset] [(.long (2 : Int64))]
  refine g_lstoreN C (pc' := 33) (Ls' := #[.val (.ref c), .val (.int (1 : Int32)), .val (.ref rg), .val (.long (2 : Int64)), .second, .unset, .unset]) d6_32 rfl rfl rfl ?_
  refine g_lloadN C (pc' := 34) d6_33 rfl rfl ?_
  refine g_aloadN C (pc' := 35) d6_34 rfl rfl rfl ?_
  refine g_getF C (pc' := 38) (wd hw 13 rfl) Via.refl d6_35 rfl Fw rfl ?_
  refine g_i2l C (pc' := 39) d6_38 rfl rfl ?_
  rw [show (2 : Int32).toInt64 = (2 : Int64) from by decide]
  refine g_lmul C (pc' := 40) d6_39 rfl rfl ?_
  rw [show ((2 : Int64) * (2 : Int64)) = (4 : Int64) from by decide]
  refine g_callS C (pc' := 43) (k' := 0) (n' := 0) (argsL := [(.long (4 : Int64))]) (rest := []) (wd hw 50 rfl) (wd hw 51 rfl) (wd hw 2 rfl) (wd hw 52 rfl) (by decide) d6_40 pd_7 rfl rfl rfl (tie_4 l Z a0 hw n0 h O s_EMPTY H) (Nat.le_of_ble_eq_true rfl) (Nat.le_of_ble_eq_true rfl) (Nat.le_of_ble_eq_true rfl) (Nat.le_of_ble_eq_true rfl) rfl rfl rfl (fun v1309 h1308 q1310 => ?_)
  obtain ⟨rfl, eh1308⟩ := q1310
  subst h1308
  show G w _ h 0 0 43 #[.val (.ref c), .val (.int (1 : Int32)), .val (.ref rg), .val (.long (2 : Int64)), .second, .unset, .unset] [(.int (4 : Int32))]
  refine g_newPE C (pc' := 45) (k' := 1) (n' := 4) (cap := 4) (ad := "[J") (wd hw 53 rfl) (by decide) d6_43 rfl (by decide) (by decide) (by decide) (by decide) (by decide) rfl rfl rfl (fun h1311 b1312 kA1313 ex1314 E1315 A1316 B1317 => ?_)
  have ne_c_b1312 : c ≠ b1312 := Nat.ne_of_lt (by rw [ex1314]; exact E0.lt)
  have ne_R_b1312 : R ≠ b1312 := Nat.ne_of_lt (by rw [ex1314]; exact AR.lt)
  have ne_F_b1312 : F ≠ b1312 := Nat.ne_of_lt (by rw [ex1314]; exact AF.lt)
  have ne_S_b1312 : S ≠ b1312 := Nat.ne_of_lt (by rw [ex1314]; exact AS.lt)
  have ne_rg_b1312 : rg ≠ b1312 := Nat.ne_of_lt (by rw [ex1314]; exact Ar.lt)
  have ge_b1312 : n0 ≤ b1312 := by rw [ex1314]; exact O.1 ▸ O.2.1
  have sz_b1312 : h.size ≤ b1312 := by rw [ex1314]; exact (Keep.refl h [R, F, S]).1
  have f1318 := O.ext E1315
  have f1319 := E0.ext E1315
  have f1320 := Fw.ext E1315
  have f1321 := Fm.ext E1315
  have f1322 := FR.ext E1315
  have f1323 := FF.ext E1315
  have f1324 := FS.ext E1315
  have f1325 := AR.ext E1315
  have f1326 := AF.ext E1315
  have f1327 := AS.ext E1315
  have f1328 := (Keep.refl h [R, F, S]).ext E1315
  have f1329 := Ar.ext E1315
  have A1330 : Arv Z h1311 b1312 kA1313 .long (4 : Int32) [(.long (0 : Int64)), (.long (0 : Int64)), (.long (0 : Int64)), (.long (0 : Int64))] (.long (0 : Int64)) := A1316.pad (pad_rep [] (.long (0 : Int64)) 4)
  refine g_astore C (pc' := 47) (Ls' := #[.val (.ref c), .val (.int (1 : Int32)), .val (.ref rg), .val (.long (2 : Int64)), .second, .val (.ref b1312), .unset]) d6_45 rfl rfl rfl rfl ?_
  refine g_aloadN C (pc' := 48) d6_47 rfl rfl rfl ?_
  refine g_getF C (pc' := 51) (wd hw 22 rfl) Via.refl d6_48 rfl f1323 rfl ?_
  refine g_iloadN C (pc' := 52) d6_51 rfl rfl ?_
  refine g_iaload C (pc' := 53) (x := (0 : Int32)) d6_52 rfl f1326 (by decide) (by decide) rfl rfl ?_
  refine g_istore C (pc' := 55) (Ls' := #[.val (.ref c), .val (.int (1 : Int32)), .val (.ref rg), .val (.long (2 : Int64)), .second, .val (.ref b1312), .val (.int (0 : Int32))]) d6_53 rfl rfl rfl ?_
  refine g_aloadN C (pc' := 56) d6_55 rfl rfl rfl ?_
  refine g_iload C (pc' := 58) d6_56 rfl rfl ?_
  refine g_aload C (pc' := 60) d6_58 rfl rfl rfl ?_
  refine g_iconst C (pc' := 61) (v := (0 : Int32)) d6_60 (by decide) rfl ?_
  refine g_aloadN C (pc' := 62) d6_61 rfl rfl rfl ?_
  refine g_alen C (pc' := 63) d6_62 rfl f1329 rfl ?_
  refine g_iload C (pc' := 65) d6_63 rfl rfl ?_
  refine g_isub C (pc' := 66) d6_65 rfl rfl ?_
  rw [show ((2 : Int32) - (0 : Int32)) = (2 : Int32) from by decide]
  refine g_cpA C (pc' := 69) (us := [(.long y0), (.long y1)]) (wd hw 54 rfl) (wd hw 57 rfl) (wd hw 55 rfl) (wd hw 56 rfl) d6_66 rfl rfl f1329 A1330 (Or.inl ⟨rfl, rfl⟩) (by decide) (by decide) (by decide) (Nat.le_of_ble_eq_true rfl) (Nat.le_of_ble_eq_true rfl) rfl (Nat.le_of_ble_eq_true rfl) ge_b1312 (Nat.le_of_ble_eq_true rfl) (Nat.le_of_ble_eq_true rfl) rfl (fun h1331 K1332 A1333 => ?_)
  have f1334 := f1318.keep K1332 (allS ge_b1312 all0)
  have f1335 := f1319.keep K1332
  have f1336 := f1320.keep K1332 (ninS ne_c_b1312 nin0)
  have f1337 := f1321.keep K1332 (ninS ne_c_b1312 nin0)
  have f1338 := f1322.keep K1332 (ninS ne_c_b1312 nin0)
  have f1339 := f1323.keep K1332 (ninS ne_c_b1312 nin0)
  have f1340 := f1324.keep K1332 (ninS ne_c_b1312 nin0)
  have f1341 := f1325.keep K1332 (ninS ne_R_b1312 nin0)
  have f1342 := f1326.keep K1332 (ninS ne_F_b1312 nin0)
  have f1343 := f1327.keep K1332 (ninS ne_S_b1312 nin0)
  have f1344 := f1328.trans K1332 (allS (Or.inr sz_b1312) all0)
  have f1345 := f1329.keep K1332 (ninS ne_rg_b1312 nin0)
  have f1346 := B1317.keep K1332
  have A1347 : Arv Z h1331 b1312 kA1313 .long (4 : Int32) [(.long y0), (.long y1), (.long (0 : Int64)), (.long (0 : Int64))] (.long (0 : Int64)) := A1333
  refine g_aloadN C (pc' := 70) d6_69 rfl rfl rfl ?_
  refine g_iconst C (pc' := 71) (v := (0 : Int32)) d6_70 (by decide) rfl ?_
  refine g_aload C (pc' := 73) d6_71 rfl rfl rfl ?_
  refine g_aloadN C (pc' := 74) d6_73 rfl rfl rfl ?_
  refine g_alen C (pc' := 75) d6_74 rfl f1345 rfl ?_
  refine g_iload C (pc' := 77) d6_75 rfl rfl ?_
  refine g_isub C (pc' := 78) d6_77 rfl rfl ?_
  rw [show ((2 : Int32) - (0 : Int32)) = (2 : Int32) from by decide]
  refine g_iload C (pc' := 80) d6_78 rfl rfl ?_
  refine g_cpA C (pc' := 83) (us := []) (wd hw 54 rfl) (wd hw 57 rfl) (wd hw 55 rfl) (wd hw 56 rfl) d6_80 rfl rfl f1345 A1347 (Or.inl ⟨rfl, rfl⟩) (by decide) (by decide) (by decide) (Nat.le_of_ble_eq_true rfl) (Nat.le_of_ble_eq_true rfl) rfl (Nat.le_of_ble_eq_true rfl) ge_b1312 (Nat.le_of_ble_eq_true rfl) (Nat.le_of_ble_eq_true rfl) rfl (fun h1348 K1349 A1350 => ?_)
  have f1351 := f1334.keep K1349 (allS ge_b1312 all0)
  have f1352 := f1335.keep K1349
  have f1353 := f1336.keep K1349 (ninS ne_c_b1312 nin0)
  have f1354 := f1337.keep K1349 (ninS ne_c_b1312 nin0)
  have f1355 := f1338.keep K1349 (ninS ne_c_b1312 nin0)
  have f1356 := f1339.keep K1349 (ninS ne_c_b1312 nin0)
  have f1357 := f1340.keep K1349 (ninS ne_c_b1312 nin0)
  have f1358 := f1341.keep K1349 (ninS ne_R_b1312 nin0)
  have f1359 := f1342.keep K1349 (ninS ne_F_b1312 nin0)
  have f1360 := f1343.keep K1349 (ninS ne_S_b1312 nin0)
  have f1361 := f1344.trans K1349 (allS (Or.inr sz_b1312) all0)
  have f1362 := f1345.keep K1349 (ninS ne_rg_b1312 nin0)
  have f1363 := f1346.keep K1349
  have A1364 : Arv Z h1348 b1312 kA1313 .long (4 : Int32) [(.long y0), (.long y1), (.long (0 : Int64)), (.long (0 : Int64))] (.long (0 : Int64)) := A1350
  refine g_aloadN C (pc' := 84) d6_83 rfl rfl rfl ?_
  refine g_getF C (pc' := 87) (wd hw 19 rfl) Via.refl d6_84 rfl f1355 rfl ?_
  refine g_iloadN C (pc' := 88) d6_87 rfl rfl ?_
  refine g_aload C (pc' := 90) d6_88 rfl rfl rfl ?_
  refine g_aastore C (pc' := 91) d6_90 rfl f1358 rfl (stoA f1358 Ov f1363) (by decide) (by decide) gR rfl (fun h1365 W1366 => ?_)
  have f1367 := f1351.wr W1366 gR
  have f1368 := f1352.wr W1366
  have f1369 := f1353.other W1366 (Or.inl n_c_R)
  have f1370 := f1354.other W1366 (Or.inl n_c_R)
  have f1371 := f1355.other W1366 (Or.inl n_c_R)
  have f1372 := f1356.other W1366 (Or.inl n_c_R)
  have f1373 := f1357.other W1366 (Or.inl n_c_R)
  have f1374 := (arv_put f1358 rfl W1366 (i := 1) rfl (Nat.le_of_ble_eq_true rfl) : Arv Z h1365 R kR (.array .long) (2 : Int32) [r0, (.ref b1312)] .null)
  have f1375 := f1359.other W1366 (Ne.symm n_R_F)
  have f1376 := f1360.other W1366 (Ne.symm n_R_S)
  have f1377 := f1361.wr W1366 (Or.inl (List.mem_of_getElem? (i := 0) rfl))
  have f1378 := f1362.other W1366 nR
  have f1379 := f1363.wr W1366
  have f1380 := A1364.other W1366 (Ne.symm ne_R_b1312)
  refine g_aloadN C (pc' := 92) d6_91 rfl rfl rfl ?_
  refine g_getF C (pc' := 95) (wd hw 22 rfl) Via.refl d6_92 rfl f1372 rfl ?_
  refine g_iloadN C (pc' := 96) d6_95 rfl rfl ?_
  refine g_iconst C (pc' := 97) (v := (0 : Int32)) d6_96 (by decide) rfl ?_
  refine g_iastore C (pc' := 98) d6_97 rfl f1375 (by decide) (by decide) gF rfl (fun h1381 W1382 => ?_)
  have f1383 := f1367.wr W1382 gF
  have f1384 := f1368.wr W1382
  have f1385 := f1369.other W1382 (Or.inl n_c_F)
  have f1386 := f1370.other W1382 (Or.inl n_c_F)
  have f1387 := f1371.other W1382 (Or.inl n_c_F)
  have f1388 := f1372.other W1382 (Or.inl n_c_F)
  have f1389 := f1373.other W1382 (Or.inl n_c_F)
  have f1390 := f1374.other W1382 n_R_F
  have f1391 := (arv_put f1375 rfl W1382 (i := 1) rfl (Nat.le_of_ble_eq_true rfl) : Arv Z h1381 F kF .int (2 : Int32) [(.int f0), (.int (0 : Int32))] (.int (0 : Int32)))
  have f1392 := f1376.other W1382 (Ne.symm n_F_S)
  have f1393 := f1377.wr W1382 (Or.inl (List.mem_of_getElem? (i := 1) rfl))
  have f1394 := f1378.other W1382 nF
  have f1395 := f1379.wr W1382
  have f1396 := f1380.other W1382 (Ne.symm ne_F_b1312)
  refine g_aload C (pc' := 100) d6_98 rfl rfl rfl ?_
  exact g_areturn C d6_100 rfl rfl rfl rfl (Nat.le_of_ble_eq_true rfl) (Nat.le_of_ble_eq_true rfl) (⟨b1312, kA1313, rfl, sz_b1312, f1393, f1396, ⟨gc, gR, gF, gS, n_c_R, n_c_F, n_c_S, n_R_F, n_R_S, n_F_S, Ov, f1384, f1385, f1386, f1387, f1388, f1389, f1390, f1391, f1392⟩⟩)
set_option maxRecDepth 65536 in
set_option maxHeartbeats 40000000 in
theorem add0_1_2 (l : Launch) (Z : State) (a0 : Array Value) (hw : ∀ d ∈ tables_1, d.before a0 Z = true) (n0 : Nat) (h : Heap) (O : Old Z n0 h) (s_EMPTY : Addr) (H : En Z s_EMPTY) (c R F S : Addr) (kR kF kS : ClassId) (m f0 s0 : Int32) (r0 : Value) (x : Int64) (hm : ¬ m.toInt64 < (1 : Int64)) (P : RC Z n0 h c R F S kR kF kS (2 : Int32) m r0 (.ref s_EMPTY) f0 (0 : Int32) s0 (0 : Int32)) : Con l Z (⟨"com/example/request_throttle/requestthrottle/RingColumn", "add", "(IJ)V"⟩ : MethodName) prog_17_method_6_code 5 none ({ frames := 2, cells := 1, slots := 2, locals := 36 } : Room) #[(.ref c), (.int (1 : Int32)), (.long x)] h n0 (fun r h' => r = none ∧ ∃ g kJ, h.size ≤ g ∧ Keep h h' [R, F, S] ∧ Arv Z h' g kJ .long (2 : Int32) [(.long x), (.long (0 : Int64))] (.long (0 : Int64)) ∧ RC Z n0 h' c R F S kR kF kS (2 : Int32) m r0 (.ref g) f0 (0 : Int32) s0 (1 : Int32)) := by
  refine Con.mk (Ls := #[.val (.ref c), .val (.int (1 : Int32)), .val (.long x), .second, .unset]) (plainFor_of_name pn_0) (fun m => by first | (simp [entryFrame, mkF, argsToLocals, Value.category]; done) | rfl) (fun w C => ?_)
  replace C : Cx w l Z "com/example/request_throttle/requestthrottle/RingColumn" prog_17_method_6_code 5 none "add" ({ frames := 2, cells := 1, slots := 2, locals := 36 } : Room) n0 := C
  obtain ⟨S_EMPTY, E_EMPTY, V_EMPTY⟩ := id H
  obtain ⟨kE, V_EMPTY⟩ := V_EMPTY
  obtain ⟨gc, gR, gF, gS, n_c_R, n_c_F, n_c_S, n_R_F, n_R_S, n_F_S, Ov, E0, Fw, Fm, FR, FF, FS, AR, AF, AS⟩ := P
  refine g_aloadN C (pc' := 1) d5_0 rfl rfl rfl ?_
  refine g_getF C (pc' := 4) (wd hw 19 rfl) Via.refl d5_1 rfl FR rfl ?_
  refine g_iloadN C (pc' := 5) d5_4 rfl rfl ?_
  refine g_aaload C (pc' := 6) (x := (.ref s_EMPTY)) d5_5 rfl AR rfl (by decide) (by decide) rfl rfl ?_
  refine g_astore C (pc' := 8) (Ls' := #[.val (.ref c), .val (.int (1 : Int32)), .val (.long x), .second, .val (.ref s_EMPTY)]) d5_6 rfl rfl rfl rfl ?_
  refine g_aloadN C (pc' := 9) d5_8 rfl rfl rfl ?_
  refine g_getF C (pc' := 12) (wd hw 24 rfl) Via.refl d5_9 rfl FS rfl ?_
  refine g_iloadN C (pc' := 13) d5_12 rfl rfl ?_
  refine g_iaload C (pc' := 14) (x := (0 : Int32)) d5_13 rfl AS (by decide) (by decide) rfl rfl ?_
  refine g_aloadN C (pc' := 15) d5_14 rfl rfl rfl ?_
  refine g_getF C (pc' := 18) (wd hw 13 rfl) Via.refl d5_15 rfl Fw rfl ?_
  refine g_imul C (pc' := 19) d5_18 rfl rfl ?_
  rw [show ((0 : Int32) * (2 : Int32)) = (0 : Int32) from by decide]
  refine g_aload C (pc' := 21) d5_19 rfl rfl rfl ?_
  refine g_alen C (pc' := 22) d5_21 rfl (V_EMPTY.ext O.2) rfl ?_
  refine g_icN C (pc' := 25) d5_22 rfl (by decide) rfl ?_
  refine g_aloadN C (pc' := 26) d5_25 rfl rfl rfl ?_
  refine g_iloadN C (pc' := 27) d5_26 rfl rfl ?_
  refine g_private C (pc' := 30) (k' := 1) (n' := 2) (argsL := [(.int (1 : Int32))]) (rest := []) (wd hw 39 rfl) (wd hw 40 rfl) (wd hw 5 rfl) (wd hw 41 rfl) (wd hw 6 rfl) (wd hw 42 rfl) (by decide) d5_27 pd_5 rfl rfl rfl E0 (grow0_1_2 l Z a0 hw n0 h O s_EMPTY H c R F S kR kF kS m f0 s0 r0 hm ⟨gc, gR, gF, gS, n_c_R, n_c_F, n_c_S, n_R_F, n_R_S, n_F_S, Ov, E0, Fw, Fm, FR, FF, FS, AR, AF, AS⟩) (Nat.le_of_ble_eq_true rfl) (Nat.le_of_ble_eq_true rfl) (Nat.le_of_ble_eq_true rfl) (Nat.le_of_ble_eq_true rfl) rfl rfl rfl (fun v1398 h1397 q1399 => ?_)
  obtain ⟨g, kG, rfl, hg, Kg, Ag, Pg⟩ := q1399
  have ne_c_g : c ≠ g := Nat.ne_of_lt (Nat.lt_of_lt_of_le E0.lt hg)
  have ne_R_g : R ≠ g := Nat.ne_of_lt (Nat.lt_of_lt_of_le AR.lt hg)
  have ne_F_g : F ≠ g := Nat.ne_of_lt (Nat.lt_of_lt_of_le AF.lt hg)
  have ne_S_g : S ≠ g := Nat.ne_of_lt (Nat.lt_of_lt_of_le AS.lt hg)
  have ne_s_EMPTY_g : s_EMPTY ≠ g := Nat.ne_of_lt (Nat.lt_of_lt_of_le (V_EMPTY.ext O.2).lt hg)
  have ge_g : n0 ≤ g := Nat.le_trans (O.1 ▸ O.2.1) hg
  have sz_g : h.size ≤ g := Nat.le_trans (Keep.refl h [R, F, S]).1 hg
  have f1400 := O.keep Kg (allS gR (allS gF (allS gS all0)))
  have f1401 := E0.keep Kg
  have f1402 := Fw.keep Kg (ninS n_c_R (ninS n_c_F (ninS n_c_S nin0)))
  have f1403 := Fm.keep Kg (ninS n_c_R (ninS n_c_F (ninS n_c_S nin0)))
  have f1404 := FR.keep Kg (ninS n_c_R (ninS n_c_F (ninS n_c_S nin0)))
  have f1405 := FF.keep Kg (ninS n_c_R (ninS n_c_F (ninS n_c_S nin0)))
  have f1406 := FS.keep Kg (ninS n_c_R (ninS n_c_F (ninS n_c_S nin0)))
  have f1407 := (Keep.refl h [R, F, S]).trans Kg (allS (Or.inl (List.mem_of_getElem? (i := 0) rfl)) (allS (Or.inl (List.mem_of_getElem? (i := 1) rfl)) (allS (Or.inl (List.mem_of_getElem? (i := 2) rfl)) all0)))
  have f1408 := (V_EMPTY.ext O.2).keep Kg (ninS (own_old O V_EMPTY.lt gR) (ninS (own_old O V_EMPTY.lt gF) (ninS (own_old O V_EMPTY.lt gS) nin0)))
  obtain ⟨qgc, qgR, qgF, qgS, qn_c_R, qn_c_F, qn_c_S, qn_R_F, qn_R_S, qn_F_S, qOv, qE0, qFw, qFm, qFR, qFF, qFS, qAR, qAF, qAS⟩ := Pg
  show G w _ h1397 1 2 30 #[.val (.ref c), .val (.int (1 : Int32)), .val (.long x), .second, .val (.ref s_EMPTY)] [(.ref g)]
  refine g_astore C (pc' := 32) (Ls' := #[.val (.ref c), .val (.int (1 : Int32)), .val (.long x), .second, .val (.ref g)]) d5_30 rfl rfl rfl rfl ?_
  refine g_aload C (pc' := 34) d5_32 rfl rfl rfl ?_
  refine g_aloadN C (pc' := 35) d5_34 rfl rfl rfl ?_
  refine g_aload C (pc' := 37) d5_35 rfl rfl rfl ?_
  refine g_iloadN C (pc' := 38) d5_37 rfl rfl ?_
  refine g_aloadN C (pc' := 39) d5_38 rfl rfl rfl ?_
  refine g_getF C (pc' := 42) (wd hw 24 rfl) Via.refl d5_39 rfl qFS rfl ?_
  refine g_iloadN C (pc' := 43) d5_42 rfl rfl ?_
  refine g_iaload C (pc' := 44) (x := (0 : Int32)) d5_43 rfl qAS (by decide) (by decide) rfl rfl ?_
  refine g_private C (pc' := 47) (k' := 1) (n' := 2) (argsL := [(.ref g), (.int (1 : Int32)), (.int (0 : Int32))]) (rest := [(.ref g)]) (wd hw 58 rfl) (wd hw 59 rfl) (wd hw 5 rfl) (wd hw 60 rfl) (wd hw 6 rfl) (wd hw 61 rfl) (by decide) d5_44 pd_9 rfl rfl rfl qE0 (start_1_2_0 l Z a0 hw n0 h1397 f1400 s_EMPTY H c R F S kR kF kS m f0 s0 (0 : Int32) r0 (.ref g) g kG (0 : Int64) (0 : Int64) Ag ⟨gc, gR, gF, gS, n_c_R, n_c_F, n_c_S, n_R_F, n_R_S, n_F_S, Ov, qE0, qFw, qFm, qFR, qFF, qFS, qAR, qAF, qAS⟩) (Nat.le_of_ble_eq_true rfl) (Nat.le_of_ble_eq_true rfl) (Nat.le_of_ble_eq_true rfl) (Nat.le_of_ble_eq_true rfl) rfl rfl rfl (fun v1410 h1409 q1411 => ?_)
  obtain ⟨rfl, eh1409⟩ := q1411
  subst h1409
  show G w _ h1397 1 2 47 #[.val (.ref c), .val (.int (1 : Int32)), .val (.long x), .second, .val (.ref g)] [(.int (0 : Int32)), (.ref g)]
  refine g_lloadN C (pc' := 48) d5_47 rfl rfl ?_
  refine g_lastore C (pc' := 49) d5_48 rfl Ag (by decide) (by decide) ge_g rfl (fun h1412 W1413 => ?_)
  have f1414 := f1400.wr W1413 ge_g
  have f1415 := qE0.wr W1413
  have f1416 := f1407.wr W1413 (Or.inr sz_g)
  have f1417 := f1408.other W1413 ne_s_EMPTY_g
  have f1418 := qFw.other W1413 (Or.inl ne_c_g)
  have f1419 := qFm.other W1413 (Or.inl ne_c_g)
  have f1420 := qFR.other W1413 (Or.inl ne_c_g)
  have f1421 := qFF.other W1413 (Or.inl ne_c_g)
  have f1422 := qFS.other W1413 (Or.inl ne_c_g)
  have f1423 := qAR.other W1413 ne_R_g
  have f1424 := qAF.other W1413 ne_F_g
  have f1425 := qAS.other W1413 ne_S_g
  have f1426 := (arv_put Ag rfl W1413 (i := 0) rfl (Nat.le_of_ble_eq_true rfl) : Arv Z h1412 g kG .long (2 : Int32) [(.long x), (.long (0 : Int64))] (.long (0 : Int64)))
  refine g_aloadN C (pc' := 50) d5_49 rfl rfl rfl ?_
  refine g_getF C (pc' := 53) (wd hw 24 rfl) Via.refl d5_50 rfl f1422 rfl ?_
  refine g_iloadN C (pc' := 54) d5_53 rfl rfl ?_
  refine g_dup2 C (pc' := 55) d5_54 rfl rfl rfl rfl ?_
  refine g_iaload C (pc' := 56) (x := (0 : Int32)) d5_55 rfl f1425 (by decide) (by decide) rfl rfl ?_
  refine g_iconst C (pc' := 57) (v := (1 : Int32)) d5_56 (by decide) rfl ?_
  refine g_iadd C (pc' := 58) d5_57 rfl rfl ?_
  rw [show ((0 : Int32) + (1 : Int32)) = (1 : Int32) from by decide]
  refine g_iastore C (pc' := 59) d5_58 rfl f1425 (by decide) (by decide) gS rfl (fun h1427 W1428 => ?_)
  have f1429 := f1414.wr W1428 gS
  have f1430 := f1415.wr W1428
  have f1431 := f1416.wr W1428 (Or.inl (List.mem_of_getElem? (i := 2) rfl))
  have f1432 := f1417.other W1428 (own_old O V_EMPTY.lt gS)
  have f1433 := f1418.other W1428 (Or.inl n_c_S)
  have f1434 := f1419.other W1428 (Or.inl n_c_S)
  have f1435 := f1420.other W1428 (Or.inl n_c_S)
  have f1436 := f1421.other W1428 (Or.inl n_c_S)
  have f1437 := f1422.other W1428 (Or.inl n_c_S)
  have f1438 := f1423.other W1428 n_R_S
  have f1439 := f1424.other W1428 n_F_S
  have f1440 := (arv_put f1425 rfl W1428 (i := 1) rfl (Nat.le_of_ble_eq_true rfl) : Arv Z h1427 S kS .int (2 : Int32) [(.int s0), (.int (1 : Int32))] (.int (0 : Int32)))
  have f1441 := f1426.other W1428 (Ne.symm ne_S_g)
  exact g_return C d5_59 rfl (Nat.le_of_ble_eq_true rfl) (Nat.le_of_ble_eq_true rfl) (⟨rfl, g, kG, sz_g, f1431, f1441, ⟨gc, gR, gF, gS, n_c_R, n_c_F, n_c_S, n_R_F, n_R_S, n_F_S, Ov, f1430, f1433, f1434, f1435, f1436, f1437, f1438, f1439, f1440⟩⟩)
set_option maxRecDepth 65536 in
set_option maxHeartbeats 40000000 in
theorem add1_1_2 (l : Launch) (Z : State) (a0 : Array Value) (hw : ∀ d ∈ tables_1, d.before a0 Z = true) (n0 : Nat) (h : Heap) (O : Old Z n0 h) (s_EMPTY : Addr) (H : En Z s_EMPTY) (c R F S : Addr) (kR kF kS : ClassId) (m f0 s0 : Int32) (r0 : Value) (x : Int64) (rg : Addr) (grg : n0 ≤ rg) (kJ : ClassId) (y0 y1 : Int64) (Ar : Arv Z h rg kJ .long (2 : Int32) [(.long y0), (.long y1)] (.long (0 : Int64))) (nR : rg ≠ R) (nF : rg ≠ F) (nS : rg ≠ S) (hm : ¬ m.toInt64 < (2 : Int64)) (P : RC Z n0 h c R F S kR kF kS (2 : Int32) m r0 (.ref rg) f0 (0 : Int32) s0 (1 : Int32)) : Con l Z (⟨"com/example/request_throttle/requestthrottle/RingColumn", "add", "(IJ)V"⟩ : MethodName) prog_17_method_6_code 5 none ({ frames := 2, cells := 1, slots := 4, locals := 36 } : Room) #[(.ref c), (.int (1 : Int32)), (.long x)] h n0 (fun r h' => r = none ∧ ∃ g kJ, h.size ≤ g ∧ Keep h h' [R, F, S] ∧ Arv Z h' g kJ .long (4 : Int32) [(.long y0), (.long y1), (.long x), (.long (0 : Int64))] (.long (0 : Int64)) ∧ RC Z n0 h' c R F S kR kF kS (2 : Int32) m r0 (.ref g) f0 (0 : Int32) s0 (2 : Int32)) := by
  refine Con.mk (Ls := #[.val (.ref c), .val (.int (1 : Int32)), .val (.long x), .second, .unset]) (plainFor_of_name pn_0) (fun m => by first | (simp [entryFrame, mkF, argsToLocals, Value.category]; done) | rfl) (fun w C => ?_)
  replace C : Cx w l Z "com/example/request_throttle/requestthrottle/RingColumn" prog_17_method_6_code 5 none "add" ({ frames := 2, cells := 1, slots := 4, locals := 36 } : Room) n0 := C
  obtain ⟨S_EMPTY, E_EMPTY, V_EMPTY⟩ := id H
  obtain ⟨kE, V_EMPTY⟩ := V_EMPTY
  obtain ⟨gc, gR, gF, gS, n_c_R, n_c_F, n_c_S, n_R_F, n_R_S, n_F_S, Ov, E0, Fw, Fm, FR, FF, FS, AR, AF, AS⟩ := P
  refine g_aloadN C (pc' := 1) d5_0 rfl rfl rfl ?_
  refine g_getF C (pc' := 4) (wd hw 19 rfl) Via.refl d5_1 rfl FR rfl ?_
  refine g_iloadN C (pc' := 5) d5_4 rfl rfl ?_
  refine g_aaload C (pc' := 6) (x := (.ref rg)) d5_5 rfl AR rfl (by decide) (by decide) rfl rfl ?_
  refine g_astore C (pc' := 8) (Ls' := #[.val (.ref c), .val (.int (1 : Int32)), .val (.long x), .second, .val (.ref rg)]) d5_6 rfl rfl rfl rfl ?_
  refine g_aloadN C (pc' := 9) d5_8 rfl rfl rfl ?_
  refine g_getF C (pc' := 12) (wd hw 24 rfl) Via.refl d5_9 rfl FS rfl ?_
  refine g_iloadN C (pc' := 13) d5_12 rfl rfl ?_
  refine g_iaload C (pc' := 14) (x := (1 : Int32)) d5_13 rfl AS (by decide) (by decide) rfl rfl ?_
  refine g_aloadN C (pc' := 15) d5_14 rfl rfl rfl ?_
  refine g_getF C (pc' := 18) (wd hw 13 rfl) Via.refl d5_15 rfl Fw rfl ?_
  refine g_imul C (pc' := 19) d5_18 rfl rfl ?_
  rw [show ((1 : Int32) * (2 : Int32)) = (2 : Int32) from by decide]
  refine g_aload C (pc' := 21) d5_19 rfl rfl rfl ?_
  refine g_alen C (pc' := 22) d5_21 rfl Ar rfl ?_
  refine g_icN C (pc' := 25) d5_22 rfl (by decide) rfl ?_
  refine g_aloadN C (pc' := 26) d5_25 rfl rfl rfl ?_
  refine g_iloadN C (pc' := 27) d5_26 rfl rfl ?_
  refine g_private C (pc' := 30) (k' := 1) (n' := 4) (argsL := [(.int (1 : Int32))]) (rest := []) (wd hw 39 rfl) (wd hw 40 rfl) (wd hw 5 rfl) (wd hw 41 rfl) (wd hw 6 rfl) (wd hw 42 rfl) (by decide) d5_27 pd_5 rfl rfl rfl E0 (grow1_1_2 l Z a0 hw n0 h O s_EMPTY H c R F S kR kF kS m f0 s0 r0 rg grg kJ y0 y1 Ar nR nF nS hm ⟨gc, gR, gF, gS, n_c_R, n_c_F, n_c_S, n_R_F, n_R_S, n_F_S, Ov, E0, Fw, Fm, FR, FF, FS, AR, AF, AS⟩) (Nat.le_of_ble_eq_true rfl) (Nat.le_of_ble_eq_true rfl) (Nat.le_of_ble_eq_true rfl) (Nat.le_of_ble_eq_true rfl) rfl rfl rfl (fun v1443 h1442 q1444 => ?_)
  obtain ⟨g, kG, rfl, hg, Kg, Ag, Pg⟩ := q1444
  have ne_c_g : c ≠ g := Nat.ne_of_lt (Nat.lt_of_lt_of_le E0.lt hg)
  have ne_R_g : R ≠ g := Nat.ne_of_lt (Nat.lt_of_lt_of_le AR.lt hg)
  have ne_F_g : F ≠ g := Nat.ne_of_lt (Nat.lt_of_lt_of_le AF.lt hg)
  have ne_S_g : S ≠ g := Nat.ne_of_lt (Nat.lt_of_lt_of_le AS.lt hg)
  have ne_rg_g : rg ≠ g := Nat.ne_of_lt (Nat.lt_of_lt_of_le Ar.lt hg)
  have ge_g : n0 ≤ g := Nat.le_trans (O.1 ▸ O.2.1) hg
  have sz_g : h.size ≤ g := Nat.le_trans (Keep.refl h [R, F, S]).1 hg
  have f1445 := O.keep Kg (allS gR (allS gF (allS gS all0)))
  have f1446 := E0.keep Kg
  have f1447 := Fw.keep Kg (ninS n_c_R (ninS n_c_F (ninS n_c_S nin0)))
  have f1448 := Fm.keep Kg (ninS n_c_R (ninS n_c_F (ninS n_c_S nin0)))
  have f1449 := FR.keep Kg (ninS n_c_R (ninS n_c_F (ninS n_c_S nin0)))
  have f1450 := FF.keep Kg (ninS n_c_R (ninS n_c_F (ninS n_c_S nin0)))
  have f1451 := FS.keep Kg (ninS n_c_R (ninS n_c_F (ninS n_c_S nin0)))
  have f1452 := (Keep.refl h [R, F, S]).trans Kg (allS (Or.inl (List.mem_of_getElem? (i := 0) rfl)) (allS (Or.inl (List.mem_of_getElem? (i := 1) rfl)) (allS (Or.inl (List.mem_of_getElem? (i := 2) rfl)) all0)))
  have f1453 := Ar.keep Kg (ninS nR (ninS nF (ninS nS nin0)))
  obtain ⟨qgc, qgR, qgF, qgS, qn_c_R, qn_c_F, qn_c_S, qn_R_F, qn_R_S, qn_F_S, qOv, qE0, qFw, qFm, qFR, qFF, qFS, qAR, qAF, qAS⟩ := Pg
  show G w _ h1442 1 4 30 #[.val (.ref c), .val (.int (1 : Int32)), .val (.long x), .second, .val (.ref rg)] [(.ref g)]
  refine g_astore C (pc' := 32) (Ls' := #[.val (.ref c), .val (.int (1 : Int32)), .val (.long x), .second, .val (.ref g)]) d5_30 rfl rfl rfl rfl ?_
  refine g_aload C (pc' := 34) d5_32 rfl rfl rfl ?_
  refine g_aloadN C (pc' := 35) d5_34 rfl rfl rfl ?_
  refine g_aload C (pc' := 37) d5_35 rfl rfl rfl ?_
  refine g_iloadN C (pc' := 38) d5_37 rfl rfl ?_
  refine g_aloadN C (pc' := 39) d5_38 rfl rfl rfl ?_
  refine g_getF C (pc' := 42) (wd hw 24 rfl) Via.refl d5_39 rfl qFS rfl ?_
  refine g_iloadN C (pc' := 43) d5_42 rfl rfl ?_
  refine g_iaload C (pc' := 44) (x := (1 : Int32)) d5_43 rfl qAS (by decide) (by decide) rfl rfl ?_
  refine g_private C (pc' := 47) (k' := 1) (n' := 4) (argsL := [(.ref g), (.int (1 : Int32)), (.int (1 : Int32))]) (rest := [(.ref g)]) (wd hw 58 rfl) (wd hw 59 rfl) (wd hw 5 rfl) (wd hw 60 rfl) (wd hw 6 rfl) (wd hw 61 rfl) (by decide) d5_44 pd_9 rfl rfl rfl qE0 (start_1_2_1b l Z a0 hw n0 h1442 f1445 s_EMPTY H c R F S kR kF kS m f0 s0 (1 : Int32) r0 (.ref g) g kG y0 y1 (0 : Int64) (0 : Int64) Ag ⟨gc, gR, gF, gS, n_c_R, n_c_F, n_c_S, n_R_F, n_R_S, n_F_S, Ov, qE0, qFw, qFm, qFR, qFF, qFS, qAR, qAF, qAS⟩) (Nat.le_of_ble_eq_true rfl) (Nat.le_of_ble_eq_true rfl) (Nat.le_of_ble_eq_true rfl) (Nat.le_of_ble_eq_true rfl) rfl rfl rfl (fun v1455 h1454 q1456 => ?_)
  obtain ⟨rfl, eh1454⟩ := q1456
  subst h1454
  show G w _ h1442 1 4 47 #[.val (.ref c), .val (.int (1 : Int32)), .val (.long x), .second, .val (.ref g)] [(.int (2 : Int32)), (.ref g)]
  refine g_lloadN C (pc' := 48) d5_47 rfl rfl ?_
  refine g_lastore C (pc' := 49) d5_48 rfl Ag (by decide) (by decide) ge_g rfl (fun h1457 W1458 => ?_)
  have f1459 := f1445.wr W1458 ge_g
  have f1460 := qE0.wr W1458
  have f1461 := f1452.wr W1458 (Or.inr sz_g)
  have f1462 := f1453.other W1458 ne_rg_g
  have f1463 := qFw.other W1458 (Or.inl ne_c_g)
  have f1464 := qFm.other W1458 (Or.inl ne_c_g)
  have f1465 := qFR.other W1458 (Or.inl ne_c_g)
  have f1466 := qFF.other W1458 (Or.inl ne_c_g)
  have f1467 := qFS.other W1458 (Or.inl ne_c_g)
  have f1468 := qAR.other W1458 ne_R_g
  have f1469 := qAF.other W1458 ne_F_g
  have f1470 := qAS.other W1458 ne_S_g
  have f1471 := (arv_put Ag rfl W1458 (i := 2) rfl (Nat.le_of_ble_eq_true rfl) : Arv Z h1457 g kG .long (4 : Int32) [(.long y0), (.long y1), (.long x), (.long (0 : Int64))] (.long (0 : Int64)))
  refine g_aloadN C (pc' := 50) d5_49 rfl rfl rfl ?_
  refine g_getF C (pc' := 53) (wd hw 24 rfl) Via.refl d5_50 rfl f1467 rfl ?_
  refine g_iloadN C (pc' := 54) d5_53 rfl rfl ?_
  refine g_dup2 C (pc' := 55) d5_54 rfl rfl rfl rfl ?_
  refine g_iaload C (pc' := 56) (x := (1 : Int32)) d5_55 rfl f1470 (by decide) (by decide) rfl rfl ?_
  refine g_iconst C (pc' := 57) (v := (1 : Int32)) d5_56 (by decide) rfl ?_
  refine g_iadd C (pc' := 58) d5_57 rfl rfl ?_
  rw [show ((1 : Int32) + (1 : Int32)) = (2 : Int32) from by decide]
  refine g_iastore C (pc' := 59) d5_58 rfl f1470 (by decide) (by decide) gS rfl (fun h1472 W1473 => ?_)
  have f1474 := f1459.wr W1473 gS
  have f1475 := f1460.wr W1473
  have f1476 := f1461.wr W1473 (Or.inl (List.mem_of_getElem? (i := 2) rfl))
  have f1477 := f1462.other W1473 nS
  have f1478 := f1463.other W1473 (Or.inl n_c_S)
  have f1479 := f1464.other W1473 (Or.inl n_c_S)
  have f1480 := f1465.other W1473 (Or.inl n_c_S)
  have f1481 := f1466.other W1473 (Or.inl n_c_S)
  have f1482 := f1467.other W1473 (Or.inl n_c_S)
  have f1483 := f1468.other W1473 n_R_S
  have f1484 := f1469.other W1473 n_F_S
  have f1485 := (arv_put f1470 rfl W1473 (i := 1) rfl (Nat.le_of_ble_eq_true rfl) : Arv Z h1472 S kS .int (2 : Int32) [(.int s0), (.int (2 : Int32))] (.int (0 : Int32)))
  have f1486 := f1471.other W1473 (Ne.symm ne_S_g)
  exact g_return C d5_59 rfl (Nat.le_of_ble_eq_true rfl) (Nat.le_of_ble_eq_true rfl) (⟨rfl, g, kG, sz_g, f1476, f1486, ⟨gc, gR, gF, gS, n_c_R, n_c_F, n_c_S, n_R_F, n_R_S, n_F_S, Ov, f1475, f1478, f1479, f1480, f1481, f1482, f1483, f1484, f1485⟩⟩)
set_option maxRecDepth 65536 in
set_option maxHeartbeats 40000000 in
theorem get_1_2 (l : Launch) (Z : State) (a0 : Array Value) (hw : ∀ d ∈ tables_1, d.before a0 Z = true) (n0 : Nat) (h : Heap) (O : Old Z n0 h) (s_EMPTY : Addr) (H : En Z s_EMPTY) (c R F S : Addr) (kR kF kS : ClassId) (m f0 s0 s1 : Int32) (r0 : Value) (rg : Addr) (kJ : ClassId) (y0 y1 : Int64) (Ar : Arv Z h rg kJ .long (2 : Int32) [(.long y0), (.long y1)] (.long (0 : Int64))) (P : RC Z n0 h c R F S kR kF kS (2 : Int32) m r0 (.ref rg) f0 (0 : Int32) s0 s1) : Con l Z (⟨"com/example/request_throttle/requestthrottle/RingColumn", "get", "(III)J"⟩ : MethodName) prog_17_method_4_code 5 (some .long) ({ frames := 1, cells := 0, slots := 0, locals := 17 } : Room) #[(.ref c), (.int (1 : Int32)), (.int (0 : Int32)), (.int (0 : Int32))] h n0 (fun r h' => r = some (.long y0) ∧ h' = h) := by
  refine Con.mk (Ls := #[.val (.ref c), .val (.int (1 : Int32)), .val (.int (0 : Int32)), .val (.int (0 : Int32)), .unset]) (plainFor_of_name pn_0) (fun m => by first | (simp [entryFrame, mkF, argsToLocals, Value.category]; done) | rfl) (fun w C => ?_)
  replace C : Cx w l Z "com/example/request_throttle/requestthrottle/RingColumn" prog_17_method_4_code 5 (some .long) "get" ({ frames := 1, cells := 0, slots := 0, locals := 17 } : Room) n0 := C
  obtain ⟨S_EMPTY, E_EMPTY, V_EMPTY⟩ := id H
  obtain ⟨kE, V_EMPTY⟩ := V_EMPTY
  obtain ⟨gc, gR, gF, gS, n_c_R, n_c_F, n_c_S, n_R_F, n_R_S, n_F_S, Ov, E0, Fw, Fm, FR, FF, FS, AR, AF, AS⟩ := P
  refine g_aloadN C (pc' := 1) d12_0 rfl rfl rfl ?_
  refine g_getF C (pc' := 4) (wd hw 19 rfl) Via.refl d12_1 rfl FR rfl ?_
  refine g_iloadN C (pc' := 5) d12_4 rfl rfl ?_
  refine g_aaload C (pc' := 6) (x := (.ref rg)) d12_5 rfl AR rfl (by decide) (by decide) rfl rfl ?_
  refine g_astore C (pc' := 8) (Ls' := #[.val (.ref c), .val (.int (1 : Int32)), .val (.int (0 : Int32)), .val (.int (0 : Int32)), .val (.ref rg)]) d12_6 rfl rfl rfl rfl ?_
  refine g_aload C (pc' := 10) d12_8 rfl rfl rfl ?_
  refine g_aloadN C (pc' := 11) d12_10 rfl rfl rfl ?_
  refine g_aload C (pc' := 13) d12_11 rfl rfl rfl ?_
  refine g_iloadN C (pc' := 14) d12_13 rfl rfl ?_
  refine g_iloadN C (pc' := 15) d12_14 rfl rfl ?_
  refine g_private C (pc' := 18) (k' := 0) (n' := 0) (argsL := [(.ref rg), (.int (1 : Int32)), (.int (0 : Int32))]) (rest := [(.ref rg)]) (wd hw 58 rfl) (wd hw 59 rfl) (wd hw 5 rfl) (wd hw 60 rfl) (wd hw 6 rfl) (wd hw 61 rfl) (by decide) d12_15 pd_9 rfl rfl rfl E0 (start_1_2_0 l Z a0 hw n0 h O s_EMPTY H c R F S kR kF kS m f0 s0 s1 r0 (.ref rg) rg kJ y0 y1 Ar ⟨gc, gR, gF, gS, n_c_R, n_c_F, n_c_S, n_R_F, n_R_S, n_F_S, Ov, E0, Fw, Fm, FR, FF, FS, AR, AF, AS⟩) (Nat.le_of_ble_eq_true rfl) (Nat.le_of_ble_eq_true rfl) (Nat.le_of_ble_eq_true rfl) (Nat.le_of_ble_eq_true rfl) rfl rfl rfl (fun v1488 h1487 q1489 => ?_)
  obtain ⟨rfl, eh1487⟩ := q1489
  subst h1487
  show G w _ h 0 0 18 #[.val (.ref c), .val (.int (1 : Int32)), .val (.int (0 : Int32)), .val (.int (0 : Int32)), .val (.ref rg)] [(.int (0 : Int32)), (.ref rg)]
  refine g_iloadN C (pc' := 19) d12_18 rfl rfl ?_
  refine g_iadd C (pc' := 20) d12_19 rfl rfl ?_
  rw [show ((0 : Int32) + (0 : Int32)) = (0 : Int32) from by decide]
  refine g_laload C (pc' := 21) (x := y0) d12_20 rfl Ar (by decide) (by decide) rfl rfl ?_
  exact g_lreturn C d12_21 rfl (Nat.le_of_ble_eq_true rfl) (Nat.le_of_ble_eq_true rfl) (⟨rfl, rfl⟩)
set_option maxRecDepth 65536 in
set_option maxHeartbeats 40000000 in
theorem rem1_1_2 (l : Launch) (Z : State) (a0 : Array Value) (hw : ∀ d ∈ tables_1, d.before a0 Z = true) (n0 : Nat) (h : Heap) (O : Old Z n0 h) (s_EMPTY : Addr) (H : En Z s_EMPTY) (c R F S : Addr) (kR kF kS : ClassId) (m f0 s0 : Int32) (r0 : Value) (rg : Addr) (kJ : ClassId) (y0 y1 : Int64) (Ar : Arv Z h rg kJ .long (2 : Int32) [(.long y0), (.long y1)] (.long (0 : Int64))) (nR : rg ≠ R) (nF : rg ≠ F) (nS : rg ≠ S) (P : RC Z n0 h c R F S kR kF kS (2 : Int32) m r0 (.ref rg) f0 (0 : Int32) s0 (1 : Int32)) : Con l Z (⟨"com/example/request_throttle/requestthrottle/RingColumn", "removeFirst", "(I)V"⟩ : MethodName) prog_17_method_7_code 3 none ({ frames := 0, cells := 0, slots := 0, locals := 0 } : Room) #[(.ref c), (.int (1 : Int32))] h n0 (fun r h' => r = none ∧ Keep h h' [R, F, S] ∧ RC Z n0 h' c R F S kR kF kS (2 : Int32) m r0 (.ref rg) f0 (0 : Int32) s0 (0 : Int32)) := by
  refine Con.mk (Ls := #[.val (.ref c), .val (.int (1 : Int32)), .unset]) (plainFor_of_name pn_0) (fun m => by first | (simp [entryFrame, mkF, argsToLocals, Value.category]; done) | rfl) (fun w C => ?_)
  replace C : Cx w l Z "com/example/request_throttle/requestthrottle/RingColumn" prog_17_method_7_code 3 none "removeFirst" ({ frames := 0, cells := 0, slots := 0, locals := 0 } : Room) n0 := C
  obtain ⟨S_EMPTY, E_EMPTY, V_EMPTY⟩ := id H
  obtain ⟨kE, V_EMPTY⟩ := V_EMPTY
  obtain ⟨gc, gR, gF, gS, n_c_R, n_c_F, n_c_S, n_R_F, n_R_S, n_F_S, Ov, E0, Fw, Fm, FR, FF, FS, AR, AF, AS⟩ := P
  refine g_aloadN C (pc' := 1) d13_0 rfl rfl rfl ?_
  refine g_getF C (pc' := 4) (wd hw 22 rfl) Via.refl d13_1 rfl FF rfl ?_
  refine g_iloadN C (pc' := 5) d13_4 rfl rfl ?_
  refine g_iaload C (pc' := 6) (x := (0 : Int32)) d13_5 rfl AF (by decide) (by decide) rfl rfl ?_
  refine g_aloadN C (pc' := 7) d13_6 rfl rfl rfl ?_
  refine g_getF C (pc' := 10) (wd hw 13 rfl) Via.refl d13_7 rfl Fw rfl ?_
  refine g_iadd C (pc' := 11) d13_10 rfl rfl ?_
  rw [show ((0 : Int32) + (2 : Int32)) = (2 : Int32) from by decide]
  refine g_istoreN C (pc' := 12) (Ls' := #[.val (.ref c), .val (.int (1 : Int32)), .val (.int (2 : Int32))]) d13_11 rfl rfl rfl ?_
  refine g_aloadN C (pc' := 13) d13_12 rfl rfl rfl ?_
  refine g_getF C (pc' := 16) (wd hw 22 rfl) Via.refl d13_13 rfl FF rfl ?_
  refine g_iloadN C (pc' := 17) d13_16 rfl rfl ?_
  refine g_iloadN C (pc' := 18) d13_17 rfl rfl ?_
  refine g_aloadN C (pc' := 19) d13_18 rfl rfl rfl ?_
  refine g_getF C (pc' := 22) (wd hw 19 rfl) Via.refl d13_19 rfl FR rfl ?_
  refine g_iloadN C (pc' := 23) d13_22 rfl rfl ?_
  refine g_aaload C (pc' := 24) (x := (.ref rg)) d13_23 rfl AR rfl (by decide) (by decide) rfl rfl ?_
  refine g_alen C (pc' := 25) d13_24 rfl Ar rfl ?_
  refine g_icN C (pc' := 28) d13_25 rfl (by decide) rfl ?_
  refine g_iconst C (pc' := 29) (v := (0 : Int32)) d13_28 (by decide) rfl ?_
  refine g_goto C (pc' := 33) d13_29 (by decide) rfl ?_
  refine g_iastore C (pc' := 34) d13_33 rfl AF (by decide) (by decide) gF rfl (fun h1490 W1491 => ?_)
  have f1492 := O.wr W1491 gF
  have f1493 := E0.wr W1491
  have f1494 := Fw.other W1491 (Or.inl n_c_F)
  have f1495 := Fm.other W1491 (Or.inl n_c_F)
  have f1496 := FR.other W1491 (Or.inl n_c_F)
  have f1497 := FF.other W1491 (Or.inl n_c_F)
  have f1498 := FS.other W1491 (Or.inl n_c_F)
  have f1499 := AR.other W1491 n_R_F
  have f1500 := (arv_put AF rfl W1491 (i := 1) rfl (Nat.le_of_ble_eq_true rfl) : Arv Z h1490 F kF .int (2 : Int32) [(.int f0), (.int (0 : Int32))] (.int (0 : Int32)))
  have f1501 := AS.other W1491 (Ne.symm n_F_S)
  have f1502 := (Keep.refl h [R, F, S]).wr W1491 (Or.inl (List.mem_of_getElem? (i := 1) rfl))
  have f1503 := Ar.other W1491 nF
  refine g_aloadN C (pc' := 35) d13_34 rfl rfl rfl ?_
  refine g_getF C (pc' := 38) (wd hw 24 rfl) Via.refl d13_35 rfl f1498 rfl ?_
  refine g_iloadN C (pc' := 39) d13_38 rfl rfl ?_
  refine g_dup2 C (pc' := 40) d13_39 rfl rfl rfl rfl ?_
  refine g_iaload C (pc' := 41) (x := (1 : Int32)) d13_40 rfl f1501 (by decide) (by decide) rfl rfl ?_
  refine g_iconst C (pc' := 42) (v := (1 : Int32)) d13_41 (by decide) rfl ?_
  refine g_isub C (pc' := 43) d13_42 rfl rfl ?_
  rw [show ((1 : Int32) - (1 : Int32)) = (0 : Int32) from by decide]
  refine g_iastore C (pc' := 44) d13_43 rfl f1501 (by decide) (by decide) gS rfl (fun h1504 W1505 => ?_)
  have f1506 := f1492.wr W1505 gS
  have f1507 := f1493.wr W1505
  have f1508 := f1494.other W1505 (Or.inl n_c_S)
  have f1509 := f1495.other W1505 (Or.inl n_c_S)
  have f1510 := f1496.other W1505 (Or.inl n_c_S)
  have f1511 := f1497.other W1505 (Or.inl n_c_S)
  have f1512 := f1498.other W1505 (Or.inl n_c_S)
  have f1513 := f1499.other W1505 n_R_S
  have f1514 := f1500.other W1505 n_F_S
  have f1515 := (arv_put f1501 rfl W1505 (i := 1) rfl (Nat.le_of_ble_eq_true rfl) : Arv Z h1504 S kS .int (2 : Int32) [(.int s0), (.int (0 : Int32))] (.int (0 : Int32)))
  have f1516 := f1502.wr W1505 (Or.inl (List.mem_of_getElem? (i := 2) rfl))
  have f1517 := f1503.other W1505 nS
  exact g_return C d13_44 rfl (Nat.le_of_ble_eq_true rfl) (Nat.le_of_ble_eq_true rfl) (⟨rfl, f1516, ⟨gc, gR, gF, gS, n_c_R, n_c_F, n_c_S, n_R_F, n_R_S, n_F_S, Ov, f1507, f1508, f1509, f1510, f1511, f1512, f1513, f1514, f1515⟩⟩)
set_option maxRecDepth 65536 in
set_option maxHeartbeats 40000000 in
theorem rem2_1_2 (l : Launch) (Z : State) (a0 : Array Value) (hw : ∀ d ∈ tables_1, d.before a0 Z = true) (n0 : Nat) (h : Heap) (O : Old Z n0 h) (s_EMPTY : Addr) (H : En Z s_EMPTY) (c R F S : Addr) (kR kF kS : ClassId) (m f0 s0 : Int32) (r0 : Value) (rg : Addr) (kJ : ClassId) (y0 y1 y2 y3 : Int64) (Ar : Arv Z h rg kJ .long (4 : Int32) [(.long y0), (.long y1), (.long y2), (.long y3)] (.long (0 : Int64))) (nR : rg ≠ R) (nF : rg ≠ F) (nS : rg ≠ S) (P : RC Z n0 h c R F S kR kF kS (2 : Int32) m r0 (.ref rg) f0 (0 : Int32) s0 (2 : Int32)) : Con l Z (⟨"com/example/request_throttle/requestthrottle/RingColumn", "removeFirst", "(I)V"⟩ : MethodName) prog_17_method_7_code 3 none ({ frames := 0, cells := 0, slots := 0, locals := 0 } : Room) #[(.ref c), (.int (1 : Int32))] h n0 (fun r h' => r = none ∧ Keep h h' [R, F, S] ∧ RC Z n0 h' c R F S kR kF kS (2 : Int32) m r0 (.ref rg) f0 (2 : Int32) s0 (1 : Int32)) := by
  refine Con.mk (Ls := #[.val (.ref c), .val (.int (1 : Int32)), .unset]) (plainFor_of_name pn_0) (fun m => by first | (simp [entryFrame, mkF, argsToLocals, Value.category]; done) | rfl) (fun w C => ?_)
  replace C : Cx w l Z "com/example/request_throttle/requestthrottle/RingColumn" prog_17_method_7_code 3 none "removeFirst" ({ frames := 0, cells := 0, slots := 0, locals := 0 } : Room) n0 := C
  obtain ⟨S_EMPTY, E_EMPTY, V_EMPTY⟩ := id H
  obtain ⟨kE, V_EMPTY⟩ := V_EMPTY
  obtain ⟨gc, gR, gF, gS, n_c_R, n_c_F, n_c_S, n_R_F, n_R_S, n_F_S, Ov, E0, Fw, Fm, FR, FF, FS, AR, AF, AS⟩ := P
  refine g_aloadN C (pc' := 1) d13_0 rfl rfl rfl ?_
  refine g_getF C (pc' := 4) (wd hw 22 rfl) Via.refl d13_1 rfl FF rfl ?_
  refine g_iloadN C (pc' := 5) d13_4 rfl rfl ?_
  refine g_iaload C (pc' := 6) (x := (0 : Int32)) d13_5 rfl AF (by decide) (by decide) rfl rfl ?_
  refine g_aloadN C (pc' := 7) d13_6 rfl rfl rfl ?_
  refine g_getF C (pc' := 10) (wd hw 13 rfl) Via.refl d13_7 rfl Fw rfl ?_
  refine g_iadd C (pc' := 11) d13_10 rfl rfl ?_
  rw [show ((0 : Int32) + (2 : Int32)) = (2 : Int32) from by decide]
  refine g_istoreN C (pc' := 12) (Ls' := #[.val (.ref c), .val (.int (1 : Int32)), .val (.int (2 : Int32))]) d13_11 rfl rfl rfl ?_
  refine g_aloadN C (pc' := 13) d13_12 rfl rfl rfl ?_
  refine g_getF C (pc' := 16) (wd hw 22 rfl) Via.refl d13_13 rfl FF rfl ?_
  refine g_iloadN C (pc' := 17) d13_16 rfl rfl ?_
  refine g_iloadN C (pc' := 18) d13_17 rfl rfl ?_
  refine g_aloadN C (pc' := 19) d13_18 rfl rfl rfl ?_
  refine g_getF C (pc' := 22) (wd hw 19 rfl) Via.refl d13_19 rfl FR rfl ?_
  refine g_iloadN C (pc' := 23) d13_22 rfl rfl ?_
  refine g_aaload C (pc' := 24) (x := (.ref rg)) d13_23 rfl AR rfl (by decide) (by decide) rfl rfl ?_
  refine g_alen C (pc' := 25) d13_24 rfl Ar rfl ?_
  refine g_icY C (pc' := 32) d13_25 rfl (by decide) (by decide) rfl ?_
  refine g_iloadN C (pc' := 33) d13_32 rfl rfl ?_
  refine g_iastore C (pc' := 34) d13_33 rfl AF (by decide) (by decide) gF rfl (fun h1518 W1519 => ?_)
  have f1520 := O.wr W1519 gF
  have f1521 := E0.wr W1519
  have f1522 := Fw.other W1519 (Or.inl n_c_F)
  have f1523 := Fm.other W1519 (Or.inl n_c_F)
  have f1524 := FR.other W1519 (Or.inl n_c_F)
  have f1525 := FF.other W1519 (Or.inl n_c_F)
  have f1526 := FS.other W1519 (Or.inl n_c_F)
  have f1527 := AR.other W1519 n_R_F
  have f1528 := (arv_put AF rfl W1519 (i := 1) rfl (Nat.le_of_ble_eq_true rfl) : Arv Z h1518 F kF .int (2 : Int32) [(.int f0), (.int (2 : Int32))] (.int (0 : Int32)))
  have f1529 := AS.other W1519 (Ne.symm n_F_S)
  have f1530 := (Keep.refl h [R, F, S]).wr W1519 (Or.inl (List.mem_of_getElem? (i := 1) rfl))
  have f1531 := Ar.other W1519 nF
  refine g_aloadN C (pc' := 35) d13_34 rfl rfl rfl ?_
  refine g_getF C (pc' := 38) (wd hw 24 rfl) Via.refl d13_35 rfl f1526 rfl ?_
  refine g_iloadN C (pc' := 39) d13_38 rfl rfl ?_
  refine g_dup2 C (pc' := 40) d13_39 rfl rfl rfl rfl ?_
  refine g_iaload C (pc' := 41) (x := (2 : Int32)) d13_40 rfl f1529 (by decide) (by decide) rfl rfl ?_
  refine g_iconst C (pc' := 42) (v := (1 : Int32)) d13_41 (by decide) rfl ?_
  refine g_isub C (pc' := 43) d13_42 rfl rfl ?_
  rw [show ((2 : Int32) - (1 : Int32)) = (1 : Int32) from by decide]
  refine g_iastore C (pc' := 44) d13_43 rfl f1529 (by decide) (by decide) gS rfl (fun h1532 W1533 => ?_)
  have f1534 := f1520.wr W1533 gS
  have f1535 := f1521.wr W1533
  have f1536 := f1522.other W1533 (Or.inl n_c_S)
  have f1537 := f1523.other W1533 (Or.inl n_c_S)
  have f1538 := f1524.other W1533 (Or.inl n_c_S)
  have f1539 := f1525.other W1533 (Or.inl n_c_S)
  have f1540 := f1526.other W1533 (Or.inl n_c_S)
  have f1541 := f1527.other W1533 n_R_S
  have f1542 := f1528.other W1533 n_F_S
  have f1543 := (arv_put f1529 rfl W1533 (i := 1) rfl (Nat.le_of_ble_eq_true rfl) : Arv Z h1532 S kS .int (2 : Int32) [(.int s0), (.int (1 : Int32))] (.int (0 : Int32)))
  have f1544 := f1530.wr W1533 (Or.inl (List.mem_of_getElem? (i := 2) rfl))
  have f1545 := f1531.other W1533 nS
  exact g_return C d13_44 rfl (Nat.le_of_ble_eq_true rfl) (Nat.le_of_ble_eq_true rfl) (⟨rfl, f1544, ⟨gc, gR, gF, gS, n_c_R, n_c_F, n_c_S, n_R_F, n_R_S, n_F_S, Ov, f1535, f1536, f1537, f1538, f1539, f1540, f1541, f1542, f1543⟩⟩)
theorem own_rc_ne {Z : State} {n0 : Nat} {h : Heap} {c R F S g : Addr} {kR kF kS : ClassId} {w m : Int32} {r0 r1 : Value} {f0 f1 s0 s1 : Int32} (P : RC Z n0 h c R F S kR kF kS w m r0 r1 f0 f1 s0 s1) (hg : h.size ≤ g) : g ≠ R ∧ g ≠ F ∧ g ≠ S := by
  obtain ⟨gc, gR, gF, gS, n_c_R, n_c_F, n_c_S, n_R_F, n_R_S, n_F_S, Ov, E0, Fw, Fm, FR, FF, FS, AR, AF, AS⟩ := P
  exact ⟨Ne.symm (Nat.ne_of_lt (Nat.lt_of_lt_of_le AR.lt hg)), Ne.symm (Nat.ne_of_lt (Nat.lt_of_lt_of_le AF.lt hg)), Ne.symm (Nat.ne_of_lt (Nat.lt_of_lt_of_le AS.lt hg))⟩
theorem own_M (x : Int32) : (1 : Int32) ≤ (1 : Int32) + (x &&& 3) ∧ (1 : Int32) + (x &&& 3) ≤ 4 := by
  have h1 := c_mask x 3 2 (by decide) (by decide)
  have h3 := c_iadd 1 (x &&& 3)
  have h4 := rng32 ((1 : Int32) + (x &&& 3))
  have e1 : (1 : Int32).toInt = 1 := by decide
  have e4 : (4 : Int32).toInt = 4 := by decide
  rw [Int32.le_iff_toInt_le, Int32.le_iff_toInt_le, e1, e4]
  rw [e1] at h3
  omega
theorem own_m1 {m : Int32} (h : (1 : Int32) ≤ m) : ¬ m.toInt64 < (1 : Int64) := by
  rw [Int64.lt_iff_toInt_lt, c_i2l]; rw [Int32.le_iff_toInt_le] at h
  have e1 : (1 : Int32).toInt = 1 := by decide
  have e2 : (1 : Int64).toInt = 1 := by decide
  omega
theorem own_m2 {m n : Int32} (h : ¬ m < n) (h2 : ¬ n < 2) : ¬ m.toInt64 < (2 : Int64) := by
  rw [Int64.lt_iff_toInt_lt, c_i2l]; rw [Int32.lt_iff_toInt_lt] at h h2
  have e1 : (2 : Int32).toInt = 2 := by decide
  have e2 : (2 : Int64).toInt = 2 := by decide
  omega
theorem own_12 {n : Int32} (h : n < 1) : n < 2 := by
  rw [Int32.lt_iff_toInt_lt] at *
  have e1 : (1 : Int32).toInt = 1 := by decide
  have e2 : (2 : Int32).toInt = 2 := by decide
  omega
theorem own_irr {n : Int32} : ¬ n < n := by rw [Int32.lt_iff_toInt_lt]; omega
theorem own_empty {s : State} {args : Array Value} {t : Term} {a : Addr} (ev : t.eval args s none [] s = some (.ref a)) (ha : (Jvm.Cond.arrayOf t .long).value args s none s [] = some true) (hl : (Jvm.Cond.eq (.length t) (.int (0 : Int32))).value args s none s [] = some true) : ∃ kE, Arv s s.heap a kE .long (0 : Int32) [] (.long (0 : Int64)) := by
  obtain ⟨c, A⟩ := Arr.start ev ha
  have hc := A.fin (Vm.Alike.refl _)
  have e := own_staInt hl
  have hi : (Jvm.Cond.isInt (.length t)).before args s = true := Cond.before_iff.mpr (by simp [Jvm.Cond.value, e])
  have sm := Cond.small_of_lengthOf ev hc hi
  obtain ⟨x, c', e1, e2, e3⟩ := Term.length_spec e
  cases ev.symm.trans e1
  cases hc.symm.trans e2
  have q : c.slots.size.toInt32 = 0 := by injection e3 with e4; exact e4.symm
  have z : c.slots.size = 0 := by
    have r := len_toInt sm
    rw [q] at r
    have e0 : (0 : Int32).toInt = 0 := by decide
    omega
  exact ⟨c.cls, c, A, rfl, by rw [z]; rfl, by decide, fun k hk => absurd hk (by omega), fun i hi => absurd hi (by omega)⟩
theorem own_and1 (x : Int32) : (x &&& (1 : Int32)) = (0 : Int32) ∨ (x &&& (1 : Int32)) = (1 : Int32) := by
  have h2 := c_mask x 1 1 (by decide) (by decide)
  simp only [← Int32.toInt_inj, h2]
  have h3 : x.toInt % 2 = 0 ∨ x.toInt % 2 = 1 := by omega
  rcases h3 with h | h <;> simp [h]
def LQ : Option Value → Heap → Prop := fun v _ => v = some (.int (1 : Int32))
theorem pd_10 : parseMethodDescriptor "(I)I" = some ⟨[.int], some .int⟩ := by decide +kernel
theorem pd_11 : parseMethodDescriptor "(III)J" = some ⟨[.int, .int, .int], some .long⟩ := by decide +kernel
theorem pd_4 : parseMethodDescriptor "(IJ)V" = some ⟨[.int, .long], none⟩ := by decide +kernel
theorem pd_1 : parseMethodDescriptor "(III)V" = some ⟨[.int, .int, .int], none⟩ := by decide +kernel
theorem pd_3 : parseMethodDescriptor "(I)V" = some ⟨[.int], none⟩ := by decide +kernel
theorem pd_0 : parseMethodDescriptor "(II)I" = some ⟨[.int, .int], some .int⟩ := by decide +kernel
theorem pn_1 : plainName "com/example/request_throttle/requestthrottle/RingColumnClearPinLaw" = true := by first | (simp [plainName, overriddenIn]; done) | decide +kernel
set_option maxRecDepth 65536 in
set_option maxHeartbeats 40000000 in
theorem rm0 (l : Launch) (Z : State) (a0 : Array Value) (hw : ∀ d ∈ tables_1, d.before a0 Z = true) (n0 : Nat) (h : Heap) (O : Old Z n0 h) (s_EMPTY : Addr) (H : En Z s_EMPTY) (p0 : Int32) (p1 : Int32) (p2 : Int32) (p3 : Int64) (p4 : Int64) (p5 : Int64) : Con l Z x code maxLocals ret room_1 #[(.int p0), (.int p1), (.int p2), (.long p3), (.long p4), (.long p5)] h n0 (LQ) := by
  refine Con.mk (Ls := #[.val (.int p0), .val (.int p1), .val (.int p2), .val (.long p3), .second, .val (.long p4), .second, .val (.long p5), .second, .unset, .unset, .unset, .unset, .unset, .unset, .unset, .unset]) (plainFor_of_name pn_1) (fun m => by first | (simp [entryFrame, mkF, argsToLocals, Value.category, maxLocals]; done) | rfl) (fun w C => ?_)
  replace C : Cx w l Z "com/example/request_throttle/requestthrottle/RingColumnClearPinLaw" code 17 (some .boolean) "law" room_1 n0 := C
  obtain ⟨S_EMPTY, E_EMPTY, V_EMPTY⟩ := id H
  refine g_iconst C (pc' := 1) (v := (1 : Int32)) at_0 (by decide) rfl ?_
  refine g_iloadN C (pc' := 2) at_1 rfl rfl ?_
  refine g_iconst C (pc' := 3) (v := (1 : Int32)) at_2 (by decide) rfl ?_
  refine g_iand C (pc' := 4) at_3 rfl rfl ?_
  rcases own_and1 p0 with e1 | e1
  · rw [e1]
    refine g_iadd C (pc' := 5) at_4 rfl rfl ?_
    rw [show ((1 : Int32) + (0 : Int32)) = (1 : Int32) from by decide]
    refine g_istore C (pc' := 7) (Ls' := #[.val (.int p0), .val (.int p1), .val (.int p2), .val (.long p3), .second, .val (.long p4), .second, .val (.long p5), .second, .val (.int (1 : Int32)), .unset, .unset, .unset, .unset, .unset, .unset, .unset]) at_5 rfl rfl rfl ?_
    refine g_iconst C (pc' := 8) (v := (1 : Int32)) at_7 (by decide) rfl ?_
    refine g_iloadN C (pc' := 9) at_8 rfl rfl ?_
    refine g_iconst C (pc' := 10) (v := (3 : Int32)) at_9 (by decide) rfl ?_
    refine g_iand C (pc' := 11) at_10 rfl rfl ?_
    refine g_iadd C (pc' := 12) at_11 rfl rfl ?_
    refine g_istore C (pc' := 14) (Ls' := #[.val (.int p0), .val (.int p1), .val (.int p2), .val (.long p3), .second, .val (.long p4), .second, .val (.long p5), .second, .val (.int (1 : Int32)), .val (.int ((1 : Int32) + (p1 &&& (3 : Int32)))), .unset, .unset, .unset, .unset, .unset, .unset]) at_12 rfl rfl rfl ?_
    refine g_iloadN C (pc' := 15) at_14 rfl rfl ?_
    refine g_iconst C (pc' := 16) (v := (1 : Int32)) at_15 (by decide) rfl ?_
    refine g_iand C (pc' := 17) at_16 rfl rfl ?_
    rcases own_and1 p2 with e2 | e2
    · rw [e2]
      refine g_istore C (pc' := 19) (Ls' := #[.val (.int p0), .val (.int p1), .val (.int p2), .val (.long p3), .second, .val (.long p4), .second, .val (.long p5), .second, .val (.int (1 : Int32)), .val (.int ((1 : Int32) + (p1 &&& (3 : Int32)))), .val (.int (0 : Int32)), .unset, .unset, .unset, .unset, .unset]) at_17 rfl rfl rfl ?_
      refine g_iconst C (pc' := 20) (v := (1 : Int32)) at_19 (by decide) rfl ?_
      refine g_iload C (pc' := 22) at_20 rfl rfl ?_
      refine g_isub C (pc' := 23) at_22 rfl rfl ?_
      rw [show ((1 : Int32) - (0 : Int32)) = (1 : Int32) from by decide]
      refine g_istore C (pc' := 25) (Ls' := #[.val (.int p0), .val (.int p1), .val (.int p2), .val (.long p3), .second, .val (.long p4), .second, .val (.long p5), .second, .val (.int (1 : Int32)), .val (.int ((1 : Int32) + (p1 &&& (3 : Int32)))), .val (.int (0 : Int32)), .val (.int (1 : Int32)), .unset, .unset, .unset, .unset]) at_23 rfl rfl rfl ?_
      refine g_iloadN C (pc' := 26) at_25 rfl rfl ?_
      refine g_iconst C (pc' := 27) (v := (1 : Int32)) at_26 (by decide) rfl ?_
      refine g_iushr C (pc' := 28) at_27 rfl rfl ?_
      refine g_iconst C (pc' := 29) (v := (3 : Int32)) at_28 (by decide) rfl ?_
      refine g_iand C (pc' := 30) at_29 rfl rfl ?_
      refine g_iload C (pc' := 32) at_30 rfl rfl ?_
      have JE : ∀ (h' : Heap) (O' : Old Z n0 h') (n dr : Int32) (c R F S : Addr) (kR kF kS : ClassId) (ro : Addr) (kO : ClassId) (go : n0 ≤ ro) (nR : ro ≠ R) (nF : ro ≠ F) (nS : ro ≠ S) (Ao : Arv Z h' ro kO .long (1 : Int32) [(.long p3)] (.long (0 : Int64))) (P : RC Z n0 h' c R F S kR kF kS (1 : Int32) ((1 : Int32) + (p1 &&& (3 : Int32))) (.ref s_EMPTY) (.ref ro) (0 : Int32) (0 : Int32) (0 : Int32) (1 : Int32)), G w LQ h' 7 15 147 #[.val (.int p0), .val (.int p1), .val (.int p2), .val (.long p3), .second, .val (.long p4), .second, .val (.long p5), .second, .val (.int (1 : Int32)), .val (.int ((1 : Int32) + (p1 &&& (3 : Int32)))), .val (.int (0 : Int32)), .val (.int (1 : Int32)), .val (.int n), .val (.int dr), .val (.ref c), .unset] [] := by
        intro h' O' n dr c R F S kR kF kS ro kO go nR nF nS Ao P
        obtain ⟨gc, gR, gF, gS, n_c_R, n_c_F, n_c_S, n_R_F, n_R_S, n_F_S, Ov, E0, -⟩ := id P
        refine g_aload C (pc' := 149) at_147 rfl rfl rfl ?_
        refine g_iload C (pc' := 151) at_149 rfl rfl ?_
        refine g_virtual C (pc' := 154) (k' := 7) (n' := 15) (argsL := [(.int (0 : Int32))]) (rest := []) (wd hw 62 rfl) (wd hw 63 rfl) (nfSel (wd hw 65 rfl)) (wd hw 65 rfl) (wd hw 64 rfl) (wd hw 6 rfl) (wd hw 66 rfl) (by decide) at_151 pd_10 rfl rfl rfl E0 (size_0_0 l Z a0 hw n0 h' O' s_EMPTY H c R F S kR kF kS (1 : Int32) ((1 : Int32) + (p1 &&& (3 : Int32))) (0 : Int32) (0 : Int32) (1 : Int32) (.ref s_EMPTY) (.ref ro) P) (Nat.le_of_ble_eq_true rfl) (Nat.le_of_ble_eq_true rfl) (Nat.le_of_ble_eq_true rfl) (Nat.le_of_ble_eq_true rfl) rfl rfl rfl (fun v1547 h1546 q1548 => ?_)
        obtain ⟨rfl, eh1546⟩ := q1548
        subst h1546
        show G w _ h' 7 15 154 #[.val (.int p0), .val (.int p1), .val (.int p2), .val (.long p3), .second, .val (.long p4), .second, .val (.long p5), .second, .val (.int (1 : Int32)), .val (.int ((1 : Int32) + (p1 &&& (3 : Int32)))), .val (.int (0 : Int32)), .val (.int (1 : Int32)), .val (.int n), .val (.int dr), .val (.ref c), .unset] [(.int (0 : Int32))]
        refine g_ifN C (pc' := 157) at_154 rfl (by decide) rfl ?_
        refine g_aload C (pc' := 159) at_157 rfl rfl rfl ?_
        refine g_iload C (pc' := 161) at_159 rfl rfl ?_
        refine g_virtual C (pc' := 164) (k' := 7) (n' := 15) (argsL := [(.int (1 : Int32))]) (rest := []) (wd hw 62 rfl) (wd hw 63 rfl) (nfSel (wd hw 65 rfl)) (wd hw 65 rfl) (wd hw 64 rfl) (wd hw 6 rfl) (wd hw 66 rfl) (by decide) at_161 pd_10 rfl rfl rfl E0 (size_1_1 l Z a0 hw n0 h' O' s_EMPTY H c R F S kR kF kS (1 : Int32) ((1 : Int32) + (p1 &&& (3 : Int32))) (0 : Int32) (0 : Int32) (0 : Int32) (.ref s_EMPTY) (.ref ro) P) (Nat.le_of_ble_eq_true rfl) (Nat.le_of_ble_eq_true rfl) (Nat.le_of_ble_eq_true rfl) (Nat.le_of_ble_eq_true rfl) rfl rfl rfl (fun v1550 h1549 q1551 => ?_)
        obtain ⟨rfl, eh1549⟩ := q1551
        subst h1549
        show G w _ h' 7 15 164 #[.val (.int p0), .val (.int p1), .val (.int p2), .val (.long p3), .second, .val (.long p4), .second, .val (.long p5), .second, .val (.int (1 : Int32)), .val (.int ((1 : Int32) + (p1 &&& (3 : Int32)))), .val (.int (0 : Int32)), .val (.int (1 : Int32)), .val (.int n), .val (.int dr), .val (.ref c), .unset] [(.int (1 : Int32))]
        refine g_iconst C (pc' := 165) (v := (1 : Int32)) at_164 (by decide) rfl ?_
        refine g_icN C (pc' := 168) at_165 rfl (by decide) rfl ?_
        refine g_aload C (pc' := 170) at_168 rfl rfl rfl ?_
        refine g_iload C (pc' := 172) at_170 rfl rfl ?_
        refine g_iconst C (pc' := 173) (v := (0 : Int32)) at_172 (by decide) rfl ?_
        refine g_iconst C (pc' := 174) (v := (0 : Int32)) at_173 (by decide) rfl ?_
        refine g_virtual C (pc' := 177) (k' := 7) (n' := 15) (argsL := [(.int (1 : Int32)), (.int (0 : Int32)), (.int (0 : Int32))]) (rest := []) (wd hw 67 rfl) (wd hw 68 rfl) (nfSel (wd hw 70 rfl)) (wd hw 70 rfl) (wd hw 69 rfl) (wd hw 6 rfl) (wd hw 71 rfl) (by decide) at_174 pd_11 rfl rfl rfl E0 (get_1_1 l Z a0 hw n0 h' O' s_EMPTY H c R F S kR kF kS ((1 : Int32) + (p1 &&& (3 : Int32))) (0 : Int32) (0 : Int32) (1 : Int32) (.ref s_EMPTY) ro kO p3 Ao P) (Nat.le_of_ble_eq_true rfl) (Nat.le_of_ble_eq_true rfl) (Nat.le_of_ble_eq_true rfl) (Nat.le_of_ble_eq_true rfl) rfl rfl rfl (fun v1553 h1552 q1554 => ?_)
        obtain ⟨rfl, eh1552⟩ := q1554
        subst h1552
        show G w _ h' 7 15 177 #[.val (.int p0), .val (.int p1), .val (.int p2), .val (.long p3), .second, .val (.long p4), .second, .val (.long p5), .second, .val (.int (1 : Int32)), .val (.int ((1 : Int32) + (p1 &&& (3 : Int32)))), .val (.int (0 : Int32)), .val (.int (1 : Int32)), .val (.int n), .val (.int dr), .val (.ref c), .unset] [(.long p3)]
        refine g_lloadN C (pc' := 178) at_177 rfl rfl ?_
        refine g_lcmp C (pc' := 179) at_178 rfl rfl ?_
        refine g_ifN C (pc' := 182) at_179 rfl (says_f (cd := .ne) (fun q => q ((lw_eq _ _).mpr rfl))) rfl ?_
        refine g_iconst C (pc' := 183) (v := (1 : Int32)) at_182 (by decide) rfl ?_
        refine g_goto C (pc' := 187) at_183 (by decide) rfl ?_
        refine g_istore C (pc' := 189) (Ls' := #[.val (.int p0), .val (.int p1), .val (.int p2), .val (.long p3), .second, .val (.long p4), .second, .val (.long p5), .second, .val (.int (1 : Int32)), .val (.int ((1 : Int32) + (p1 &&& (3 : Int32)))), .val (.int (0 : Int32)), .val (.int (1 : Int32)), .val (.int n), .val (.int dr), .val (.ref c), .val (.int (1 : Int32))]) at_187 rfl rfl rfl ?_
        refine g_iload C (pc' := 191) at_189 rfl rfl ?_
        refine g_ifY C (pc' := 196) at_191 rfl (by decide) (by decide) rfl ?_
        refine g_aload C (pc' := 198) at_196 rfl rfl rfl ?_
        refine g_iload C (pc' := 200) at_198 rfl rfl ?_
        refine g_lload C (pc' := 202) at_200 rfl rfl ?_
        refine g_virtual C (pc' := 205) (k' := 8) (n' := 16) (argsL := [(.int (0 : Int32)), (.long p5)]) (rest := []) (wd hw 34 rfl) (wd hw 35 rfl) (nfSel (wd hw 37 rfl)) (wd hw 37 rfl) (wd hw 36 rfl) (wd hw 6 rfl) (wd hw 38 rfl) (by decide) at_202 pd_4 rfl rfl rfl E0 (add0_0_1 l Z a0 hw n0 h' O' s_EMPTY H c R F S kR kF kS ((1 : Int32) + (p1 &&& (3 : Int32))) (0 : Int32) (1 : Int32) (.ref ro) p5 (own_m1 (own_M p1).1) P) (Nat.le_of_ble_eq_true rfl) (Nat.le_of_ble_eq_true rfl) (Nat.le_of_ble_eq_true rfl) (Nat.le_of_ble_eq_true rfl) rfl rfl rfl (fun v1562 h1561 q1563 => ?_)
        obtain ⟨rfl, rg1555, kG1556, hg1557, K1558, Ag1559, P1560⟩ := q1563
        have ne_c_rg1555 : c ≠ rg1555 := Nat.ne_of_lt (Nat.lt_of_lt_of_le E0.lt hg1557)
        have ne_ro_rg1555 : ro ≠ rg1555 := Nat.ne_of_lt (Nat.lt_of_lt_of_le Ao.lt hg1557)
        have ge_rg1555 : n0 ≤ rg1555 := Nat.le_trans (O'.1 ▸ O'.2.1) hg1557
        have ne_rg1555 := own_rc_ne P hg1557
        have f1564 := O'.keep K1558 (allS gR (allS gF (allS gS all0)))
        have f1565 := E0.keep K1558
        have f1566 := Ao.keep K1558 (ninS nR (ninS nF (ninS nS nin0)))
        show G w _ h1561 8 16 205 #[.val (.int p0), .val (.int p1), .val (.int p2), .val (.long p3), .second, .val (.long p4), .second, .val (.long p5), .second, .val (.int (1 : Int32)), .val (.int ((1 : Int32) + (p1 &&& (3 : Int32)))), .val (.int (0 : Int32)), .val (.int (1 : Int32)), .val (.int n), .val (.int dr), .val (.ref c), .val (.int (1 : Int32))] []
        refine g_aload C (pc' := 207) at_205 rfl rfl rfl ?_
        refine g_iload C (pc' := 209) at_207 rfl rfl ?_
        refine g_iconst C (pc' := 210) (v := (0 : Int32)) at_209 (by decide) rfl ?_
        refine g_iconst C (pc' := 211) (v := (0 : Int32)) at_210 (by decide) rfl ?_
        refine g_virtual C (pc' := 214) (k' := 8) (n' := 16) (argsL := [(.int (0 : Int32)), (.int (0 : Int32)), (.int (0 : Int32))]) (rest := []) (wd hw 67 rfl) (wd hw 68 rfl) (nfSel (wd hw 70 rfl)) (wd hw 70 rfl) (wd hw 69 rfl) (wd hw 6 rfl) (wd hw 71 rfl) (by decide) at_211 pd_11 rfl rfl rfl f1565 (get_0_1 l Z a0 hw n0 h1561 f1564 s_EMPTY H c R F S kR kF kS ((1 : Int32) + (p1 &&& (3 : Int32))) (0 : Int32) (1 : Int32) (1 : Int32) (.ref ro) rg1555 kG1556 p5 Ag1559 P1560) (Nat.le_of_ble_eq_true rfl) (Nat.le_of_ble_eq_true rfl) (Nat.le_of_ble_eq_true rfl) (Nat.le_of_ble_eq_true rfl) rfl rfl rfl (fun v1568 h1567 q1569 => ?_)
        obtain ⟨rfl, eh1567⟩ := q1569
        subst h1567
        show G w _ h1561 8 16 214 #[.val (.int p0), .val (.int p1), .val (.int p2), .val (.long p3), .second, .val (.long p4), .second, .val (.long p5), .second, .val (.int (1 : Int32)), .val (.int ((1 : Int32) + (p1 &&& (3 : Int32)))), .val (.int (0 : Int32)), .val (.int (1 : Int32)), .val (.int n), .val (.int dr), .val (.ref c), .val (.int (1 : Int32))] [(.long p5)]
        refine g_lload C (pc' := 216) at_214 rfl rfl ?_
        refine g_lcmp C (pc' := 217) at_216 rfl rfl ?_
        refine g_ifN C (pc' := 220) at_217 rfl (says_f (cd := .ne) (fun q => q ((lw_eq _ _).mpr rfl))) rfl ?_
        refine g_iconst C (pc' := 221) (v := (1 : Int32)) at_220 (by decide) rfl ?_
        refine g_goto C (pc' := 225) at_221 (by decide) rfl ?_
        exact g_zreturn C at_225 rfl rfl (Nat.le_of_ble_eq_true rfl) (Nat.le_of_ble_eq_true rfl) (rfl)
      have J52 : ∀ (n dr : Int32) (hn : ¬ ((1 : Int32) + (p1 &&& (3 : Int32))) < n) (hd : dr = 0 ∨ dr = 1), G w LQ h 0 0 52 #[.val (.int p0), .val (.int p1), .val (.int p2), .val (.long p3), .second, .val (.long p4), .second, .val (.long p5), .second, .val (.int (1 : Int32)), .val (.int ((1 : Int32) + (p1 &&& (3 : Int32)))), .val (.int (0 : Int32)), .val (.int (1 : Int32)), .val (.int n), .val (.int dr), .unset, .unset] [] := by
        intro n dr hn hd
        refine g_new C (pc' := 55) (k' := 1) (n' := 5) (wd hw 4 rfl) (wd hw 5 rfl) (wd hw 6 rfl) at_52 (by decide) (by decide) rfl rfl rfl (fun h1570 b1571 ex1572 E1573 A1574 D1575 => ?_)
        have ge_b1571 : n0 ≤ b1571 := by rw [ex1572]; exact O.1 ▸ O.2.1
        have f1576 := O.ext E1573
        have F__width_b1571 : Fld Z h1570 b1571 "com/example/request_throttle/requestthrottle/RingColumn" "_width" "I" (.int (0 : Int32)) := D1575 (Or.inr (wd hw 14 rfl)) (ty := .int) (by decide)
        have F__most_b1571 : Fld Z h1570 b1571 "com/example/request_throttle/requestthrottle/RingColumn" "_most" "I" (.int (0 : Int32)) := D1575 (Or.inr (wd hw 16 rfl)) (ty := .int) (by decide)
        have F__rings_b1571 : Fld Z h1570 b1571 "com/example/request_throttle/requestthrottle/RingColumn" "_rings" "[[J" .null := D1575 (Or.inr (wd hw 20 rfl)) (ty := (.array (.array .long))) (by decide)
        have F__first_b1571 : Fld Z h1570 b1571 "com/example/request_throttle/requestthrottle/RingColumn" "_first" "[I" .null := D1575 (Or.inr (wd hw 23 rfl)) (ty := (.array .int)) (by decide)
        have F__size_b1571 : Fld Z h1570 b1571 "com/example/request_throttle/requestthrottle/RingColumn" "_size" "[I" .null := D1575 (Or.inr (wd hw 25 rfl)) (ty := (.array .int)) (by decide)
        refine g_dup C (pc' := 56) at_55 rfl rfl rfl ?_
        refine g_iload C (pc' := 58) at_56 rfl rfl ?_
        refine g_iload C (pc' := 60) at_58 rfl rfl ?_
        refine g_iconst C (pc' := 61) (v := (2 : Int32)) at_60 (by decide) rfl ?_
        refine g_special C (pc' := 64) (k' := 4) (n' := 11) (argsL := [(.int (1 : Int32)), (.int ((1 : Int32) + (p1 &&& (3 : Int32)))), (.int (2 : Int32))]) (rest := [(.ref b1571)]) (wd hw 7 rfl) (wd hw 8 rfl) (wd hw 6 rfl) (wd hw 9 rfl) (by decide) rfl at_61 pd_1 rfl rfl rfl (rc_init l Z a0 hw n0 h1570 f1576 s_EMPTY H b1571 ge_b1571 (1 : Int32) ((1 : Int32) + (p1 &&& (3 : Int32))) A1574 F__width_b1571 F__most_b1571 F__rings_b1571 F__first_b1571 F__size_b1571) (Nat.le_of_ble_eq_true rfl) (Nat.le_of_ble_eq_true rfl) (Nat.le_of_ble_eq_true rfl) (Nat.le_of_ble_eq_true rfl) rfl rfl rfl (fun v1580 h1579 q1581 => ?_)
        obtain ⟨rfl, K1577, R, F, S, kR, kF, kS, hR, hF, hS, P1578⟩ := q1581
        have f1582 := f1576.keep K1577 (allS ge_b1571 all0)
        have f1583 := A1574.keep K1577
        obtain ⟨gc, gR, gF, gS, n_c_R, n_c_F, n_c_S, n_R_F, n_R_S, n_F_S, -⟩ := id P1578
        show G w _ h1579 4 11 64 #[.val (.int p0), .val (.int p1), .val (.int p2), .val (.long p3), .second, .val (.long p4), .second, .val (.long p5), .second, .val (.int (1 : Int32)), .val (.int ((1 : Int32) + (p1 &&& (3 : Int32)))), .val (.int (0 : Int32)), .val (.int (1 : Int32)), .val (.int n), .val (.int dr), .unset, .unset] [(.ref b1571)]
        refine g_astore C (pc' := 66) (Ls' := #[.val (.int p0), .val (.int p1), .val (.int p2), .val (.long p3), .second, .val (.long p4), .second, .val (.long p5), .second, .val (.int (1 : Int32)), .val (.int ((1 : Int32) + (p1 &&& (3 : Int32)))), .val (.int (0 : Int32)), .val (.int (1 : Int32)), .val (.int n), .val (.int dr), .val (.ref b1571), .unset]) at_64 rfl rfl rfl rfl ?_
        refine g_aload C (pc' := 68) at_66 rfl rfl rfl ?_
        refine g_iload C (pc' := 70) at_68 rfl rfl ?_
        refine g_virtual C (pc' := 73) (k' := 4) (n' := 11) (argsL := [(.int (1 : Int32))]) (rest := []) (wd hw 26 rfl) (wd hw 27 rfl) (nfSel (wd hw 29 rfl)) (wd hw 29 rfl) (wd hw 28 rfl) (wd hw 6 rfl) (wd hw 30 rfl) (by decide) at_70 pd_3 rfl rfl rfl f1583 (clear_1 l Z a0 hw n0 h1579 f1582 s_EMPTY H b1571 R F S kR kF kS (1 : Int32) ((1 : Int32) + (p1 &&& (3 : Int32))) (0 : Int32) (0 : Int32) (0 : Int32) (0 : Int32) .null .null P1578) (Nat.le_of_ble_eq_true rfl) (Nat.le_of_ble_eq_true rfl) (Nat.le_of_ble_eq_true rfl) (Nat.le_of_ble_eq_true rfl) rfl rfl rfl (fun v1587 h1586 q1588 => ?_)
        obtain ⟨rfl, K1584, P1585⟩ := q1588
        have f1589 := f1582.keep K1584 (allS gR (allS gF (allS gS all0)))
        have f1590 := f1583.keep K1584
        show G w _ h1586 4 11 73 #[.val (.int p0), .val (.int p1), .val (.int p2), .val (.long p3), .second, .val (.long p4), .second, .val (.long p5), .second, .val (.int (1 : Int32)), .val (.int ((1 : Int32) + (p1 &&& (3 : Int32)))), .val (.int (0 : Int32)), .val (.int (1 : Int32)), .val (.int n), .val (.int dr), .val (.ref b1571), .unset] []
        refine g_aload C (pc' := 75) at_73 rfl rfl rfl ?_
        refine g_iload C (pc' := 77) at_75 rfl rfl ?_
        refine g_lloadN C (pc' := 78) at_77 rfl rfl ?_
        refine g_virtual C (pc' := 81) (k' := 5) (n' := 12) (argsL := [(.int (1 : Int32)), (.long p3)]) (rest := []) (wd hw 34 rfl) (wd hw 35 rfl) (nfSel (wd hw 37 rfl)) (wd hw 37 rfl) (wd hw 36 rfl) (wd hw 6 rfl) (wd hw 38 rfl) (by decide) at_78 pd_4 rfl rfl rfl f1590 (add0_1_1 l Z a0 hw n0 h1586 f1589 s_EMPTY H b1571 R F S kR kF kS ((1 : Int32) + (p1 &&& (3 : Int32))) (0 : Int32) (0 : Int32) .null p3 (own_m1 (own_M p1).1) P1585) (Nat.le_of_ble_eq_true rfl) (Nat.le_of_ble_eq_true rfl) (Nat.le_of_ble_eq_true rfl) (Nat.le_of_ble_eq_true rfl) rfl rfl rfl (fun v1598 h1597 q1599 => ?_)
        obtain ⟨rfl, rg1591, kG1592, hg1593, K1594, Ag1595, P1596⟩ := q1599
        have ne_b1571_rg1591 : b1571 ≠ rg1591 := Nat.ne_of_lt (Nat.lt_of_lt_of_le f1590.lt hg1593)
        have ge_rg1591 : n0 ≤ rg1591 := Nat.le_trans (f1589.1 ▸ f1589.2.1) hg1593
        have ne_rg1591 := own_rc_ne P1585 hg1593
        have f1600 := f1589.keep K1594 (allS gR (allS gF (allS gS all0)))
        have f1601 := f1590.keep K1594
        show G w _ h1597 5 12 81 #[.val (.int p0), .val (.int p1), .val (.int p2), .val (.long p3), .second, .val (.long p4), .second, .val (.long p5), .second, .val (.int (1 : Int32)), .val (.int ((1 : Int32) + (p1 &&& (3 : Int32)))), .val (.int (0 : Int32)), .val (.int (1 : Int32)), .val (.int n), .val (.int dr), .val (.ref b1571), .unset] []
        refine g_aload C (pc' := 83) at_81 rfl rfl rfl ?_
        refine g_iload C (pc' := 85) at_83 rfl rfl ?_
        refine g_virtual C (pc' := 88) (k' := 5) (n' := 12) (argsL := [(.int (0 : Int32))]) (rest := []) (wd hw 26 rfl) (wd hw 27 rfl) (nfSel (wd hw 29 rfl)) (wd hw 29 rfl) (wd hw 28 rfl) (wd hw 6 rfl) (wd hw 30 rfl) (by decide) at_85 pd_3 rfl rfl rfl f1601 (clear_0 l Z a0 hw n0 h1597 f1600 s_EMPTY H b1571 R F S kR kF kS (1 : Int32) ((1 : Int32) + (p1 &&& (3 : Int32))) (0 : Int32) (0 : Int32) (0 : Int32) (1 : Int32) .null (.ref rg1591) P1596) (Nat.le_of_ble_eq_true rfl) (Nat.le_of_ble_eq_true rfl) (Nat.le_of_ble_eq_true rfl) (Nat.le_of_ble_eq_true rfl) rfl rfl rfl (fun v1605 h1604 q1606 => ?_)
        obtain ⟨rfl, K1602, P1603⟩ := q1606
        have f1607 := f1600.keep K1602 (allS gR (allS gF (allS gS all0)))
        have f1608 := f1601.keep K1602
        have f1609 := Ag1595.keep K1602 (ninS ne_rg1591.1 (ninS ne_rg1591.2.1 (ninS ne_rg1591.2.2 nin0)))
        show G w _ h1604 5 12 88 #[.val (.int p0), .val (.int p1), .val (.int p2), .val (.long p3), .second, .val (.long p4), .second, .val (.long p5), .second, .val (.int (1 : Int32)), .val (.int ((1 : Int32) + (p1 &&& (3 : Int32)))), .val (.int (0 : Int32)), .val (.int (1 : Int32)), .val (.int n), .val (.int dr), .val (.ref b1571), .unset] []
        by_cases h1 : n < 1
        · refine g_iload C (pc' := 90) at_88 rfl rfl ?_
          refine g_iconst C (pc' := 91) (v := (1 : Int32)) at_90 (by decide) rfl ?_
          refine g_icY C (pc' := 103) at_91 rfl (says_t (cd := .lt) (h1)) (by decide) rfl ?_
          refine g_iload C (pc' := 105) at_103 rfl rfl ?_
          refine g_iconst C (pc' := 106) (v := (2 : Int32)) at_105 (by decide) rfl ?_
          refine g_icY C (pc' := 122) at_106 rfl (says_t (cd := .lt) (own_12 h1)) (by decide) rfl ?_
          refine g_iload C (pc' := 124) at_122 rfl rfl ?_
          refine g_iconst C (pc' := 125) (v := (1 : Int32)) at_124 (by decide) rfl ?_
          refine g_icY C (pc' := 140) at_125 rfl (says_t (cd := .lt) (h1)) (by decide) rfl ?_
          refine g_aload C (pc' := 142) at_140 rfl rfl rfl ?_
          refine g_iload C (pc' := 144) at_142 rfl rfl ?_
          refine g_virtual C (pc' := 147) (k' := 5) (n' := 12) (argsL := [(.int (0 : Int32))]) (rest := []) (wd hw 26 rfl) (wd hw 27 rfl) (nfSel (wd hw 29 rfl)) (wd hw 29 rfl) (wd hw 28 rfl) (wd hw 6 rfl) (wd hw 30 rfl) (by decide) at_144 pd_3 rfl rfl rfl f1608 (clear_0 l Z a0 hw n0 h1604 f1607 s_EMPTY H b1571 R F S kR kF kS (1 : Int32) ((1 : Int32) + (p1 &&& (3 : Int32))) (0 : Int32) (0 : Int32) (0 : Int32) (1 : Int32) (.ref s_EMPTY) (.ref rg1591) P1603) (Nat.le_of_ble_eq_true rfl) (Nat.le_of_ble_eq_true rfl) (Nat.le_of_ble_eq_true rfl) (Nat.le_of_ble_eq_true rfl) rfl rfl rfl (fun v1613 h1612 q1614 => ?_)
          obtain ⟨rfl, K1610, P1611⟩ := q1614
          have f1615 := f1607.keep K1610 (allS gR (allS gF (allS gS all0)))
          have f1616 := f1608.keep K1610
          have f1617 := f1609.keep K1610 (ninS ne_rg1591.1 (ninS ne_rg1591.2.1 (ninS ne_rg1591.2.2 nin0)))
          show G w _ h1612 5 12 147 #[.val (.int p0), .val (.int p1), .val (.int p2), .val (.long p3), .second, .val (.long p4), .second, .val (.long p5), .second, .val (.int (1 : Int32)), .val (.int ((1 : Int32) + (p1 &&& (3 : Int32)))), .val (.int (0 : Int32)), .val (.int (1 : Int32)), .val (.int n), .val (.int dr), .val (.ref b1571), .unset] []
          refine G.more (k' := 7) (n' := 15) (Nat.le_of_ble_eq_true rfl) (Nat.le_of_ble_eq_true rfl) ?_
          exact JE _ f1615 n dr b1571 R F S kR kF kS rg1591 kG1592 ge_rg1591 ne_rg1591.1 ne_rg1591.2.1 ne_rg1591.2.2 f1617 P1611
        · by_cases h2 : n < 2
          · refine g_iload C (pc' := 90) at_88 rfl rfl ?_
            refine g_iconst C (pc' := 91) (v := (1 : Int32)) at_90 (by decide) rfl ?_
            refine g_icN C (pc' := 94) at_91 rfl (says_f (cd := .lt) (h1)) rfl ?_
            refine g_aload C (pc' := 96) at_94 rfl rfl rfl ?_
            refine g_iload C (pc' := 98) at_96 rfl rfl ?_
            refine g_lload C (pc' := 100) at_98 rfl rfl ?_
            refine g_virtual C (pc' := 103) (k' := 6) (n' := 13) (argsL := [(.int (0 : Int32)), (.long p4)]) (rest := []) (wd hw 34 rfl) (wd hw 35 rfl) (nfSel (wd hw 37 rfl)) (wd hw 37 rfl) (wd hw 36 rfl) (wd hw 6 rfl) (wd hw 38 rfl) (by decide) at_100 pd_4 rfl rfl rfl f1608 (add0_0_1 l Z a0 hw n0 h1604 f1607 s_EMPTY H b1571 R F S kR kF kS ((1 : Int32) + (p1 &&& (3 : Int32))) (0 : Int32) (1 : Int32) (.ref rg1591) p4 (own_m1 (own_M p1).1) P1603) (Nat.le_of_ble_eq_true rfl) (Nat.le_of_ble_eq_true rfl) (Nat.le_of_ble_eq_true rfl) (Nat.le_of_ble_eq_true rfl) rfl rfl rfl (fun v1625 h1624 q1626 => ?_)
            obtain ⟨rfl, rg1618, kG1619, hg1620, K1621, Ag1622, P1623⟩ := q1626
            have ne_b1571_rg1618 : b1571 ≠ rg1618 := Nat.ne_of_lt (Nat.lt_of_lt_of_le f1608.lt hg1620)
            have ne_rg1591_rg1618 : rg1591 ≠ rg1618 := Nat.ne_of_lt (Nat.lt_of_lt_of_le f1609.lt hg1620)
            have ge_rg1618 : n0 ≤ rg1618 := Nat.le_trans (f1607.1 ▸ f1607.2.1) hg1620
            have ne_rg1618 := own_rc_ne P1603 hg1620
            have f1627 := f1607.keep K1621 (allS gR (allS gF (allS gS all0)))
            have f1628 := f1608.keep K1621
            have f1629 := f1609.keep K1621 (ninS ne_rg1591.1 (ninS ne_rg1591.2.1 (ninS ne_rg1591.2.2 nin0)))
            show G w _ h1624 6 13 103 #[.val (.int p0), .val (.int p1), .val (.int p2), .val (.long p3), .second, .val (.long p4), .second, .val (.long p5), .second, .val (.int (1 : Int32)), .val (.int ((1 : Int32) + (p1 &&& (3 : Int32)))), .val (.int (0 : Int32)), .val (.int (1 : Int32)), .val (.int n), .val (.int dr), .val (.ref b1571), .unset] []
            refine g_iload C (pc' := 105) at_103 rfl rfl ?_
            refine g_iconst C (pc' := 106) (v := (2 : Int32)) at_105 (by decide) rfl ?_
            refine g_icY C (pc' := 122) at_106 rfl (says_t (cd := .lt) (h2)) (by decide) rfl ?_
            refine g_iload C (pc' := 124) at_122 rfl rfl ?_
            refine g_iconst C (pc' := 125) (v := (1 : Int32)) at_124 (by decide) rfl ?_
            refine g_icN C (pc' := 128) at_125 rfl (says_f (cd := .lt) (h1)) rfl ?_
            rcases hd with rfl | rfl
            · refine g_iload C (pc' := 130) at_128 rfl rfl ?_
              refine g_ifY C (pc' := 140) at_130 rfl (by decide) (by decide) rfl ?_
              refine g_aload C (pc' := 142) at_140 rfl rfl rfl ?_
              refine g_iload C (pc' := 144) at_142 rfl rfl ?_
              refine g_virtual C (pc' := 147) (k' := 6) (n' := 13) (argsL := [(.int (0 : Int32))]) (rest := []) (wd hw 26 rfl) (wd hw 27 rfl) (nfSel (wd hw 29 rfl)) (wd hw 29 rfl) (wd hw 28 rfl) (wd hw 6 rfl) (wd hw 30 rfl) (by decide) at_144 pd_3 rfl rfl rfl f1628 (clear_0 l Z a0 hw n0 h1624 f1627 s_EMPTY H b1571 R F S kR kF kS (1 : Int32) ((1 : Int32) + (p1 &&& (3 : Int32))) (0 : Int32) (0 : Int32) (1 : Int32) (1 : Int32) (.ref rg1618) (.ref rg1591) P1623) (Nat.le_of_ble_eq_true rfl) (Nat.le_of_ble_eq_true rfl) (Nat.le_of_ble_eq_true rfl) (Nat.le_of_ble_eq_true rfl) rfl rfl rfl (fun v1633 h1632 q1634 => ?_)
              obtain ⟨rfl, K1630, P1631⟩ := q1634
              have f1635 := f1627.keep K1630 (allS gR (allS gF (allS gS all0)))
              have f1636 := f1628.keep K1630
              have f1637 := f1629.keep K1630 (ninS ne_rg1591.1 (ninS ne_rg1591.2.1 (ninS ne_rg1591.2.2 nin0)))
              have f1638 := Ag1622.keep K1630 (ninS ne_rg1618.1 (ninS ne_rg1618.2.1 (ninS ne_rg1618.2.2 nin0)))
              show G w _ h1632 6 13 147 #[.val (.int p0), .val (.int p1), .val (.int p2), .val (.long p3), .second, .val (.long p4), .second, .val (.long p5), .second, .val (.int (1 : Int32)), .val (.int ((1 : Int32) + (p1 &&& (3 : Int32)))), .val (.int (0 : Int32)), .val (.int (1 : Int32)), .val (.int n), .val (.int (0 : Int32)), .val (.ref b1571), .unset] []
              refine G.more (k' := 7) (n' := 15) (Nat.le_of_ble_eq_true rfl) (Nat.le_of_ble_eq_true rfl) ?_
              exact JE _ f1635 n (0 : Int32) b1571 R F S kR kF kS rg1591 kG1592 ge_rg1591 ne_rg1591.1 ne_rg1591.2.1 ne_rg1591.2.2 f1637 P1631
            · refine g_iload C (pc' := 130) at_128 rfl rfl ?_
              refine g_ifN C (pc' := 133) at_130 rfl (by decide) rfl ?_
              refine g_aload C (pc' := 135) at_133 rfl rfl rfl ?_
              refine g_iload C (pc' := 137) at_135 rfl rfl ?_
              refine g_virtual C (pc' := 140) (k' := 6) (n' := 13) (argsL := [(.int (0 : Int32))]) (rest := []) (wd hw 73 rfl) (wd hw 74 rfl) (nfSel (wd hw 76 rfl)) (wd hw 76 rfl) (wd hw 75 rfl) (wd hw 6 rfl) (wd hw 77 rfl) (by decide) at_137 pd_3 rfl rfl rfl f1628 (rem1_0_1 l Z a0 hw n0 h1624 f1627 s_EMPTY H b1571 R F S kR kF kS ((1 : Int32) + (p1 &&& (3 : Int32))) (0 : Int32) (1 : Int32) (.ref rg1591) rg1618 kG1619 p4 Ag1622 ne_rg1618.1 ne_rg1618.2.1 ne_rg1618.2.2 P1623) (Nat.le_of_ble_eq_true rfl) (Nat.le_of_ble_eq_true rfl) (Nat.le_of_ble_eq_true rfl) (Nat.le_of_ble_eq_true rfl) rfl rfl rfl (fun v1642 h1641 q1643 => ?_)
              obtain ⟨rfl, K1639, P1640⟩ := q1643
              have f1644 := f1627.keep K1639 (allS gR (allS gF (allS gS all0)))
              have f1645 := f1628.keep K1639
              have f1646 := f1629.keep K1639 (ninS ne_rg1591.1 (ninS ne_rg1591.2.1 (ninS ne_rg1591.2.2 nin0)))
              have f1647 := Ag1622.keep K1639 (ninS ne_rg1618.1 (ninS ne_rg1618.2.1 (ninS ne_rg1618.2.2 nin0)))
              show G w _ h1641 6 13 140 #[.val (.int p0), .val (.int p1), .val (.int p2), .val (.long p3), .second, .val (.long p4), .second, .val (.long p5), .second, .val (.int (1 : Int32)), .val (.int ((1 : Int32) + (p1 &&& (3 : Int32)))), .val (.int (0 : Int32)), .val (.int (1 : Int32)), .val (.int n), .val (.int (1 : Int32)), .val (.ref b1571), .unset] []
              refine g_aload C (pc' := 142) at_140 rfl rfl rfl ?_
              refine g_iload C (pc' := 144) at_142 rfl rfl ?_
              refine g_virtual C (pc' := 147) (k' := 6) (n' := 13) (argsL := [(.int (0 : Int32))]) (rest := []) (wd hw 26 rfl) (wd hw 27 rfl) (nfSel (wd hw 29 rfl)) (wd hw 29 rfl) (wd hw 28 rfl) (wd hw 6 rfl) (wd hw 30 rfl) (by decide) at_144 pd_3 rfl rfl rfl f1645 (clear_0 l Z a0 hw n0 h1641 f1644 s_EMPTY H b1571 R F S kR kF kS (1 : Int32) ((1 : Int32) + (p1 &&& (3 : Int32))) (0 : Int32) (0 : Int32) (0 : Int32) (1 : Int32) (.ref rg1618) (.ref rg1591) P1640) (Nat.le_of_ble_eq_true rfl) (Nat.le_of_ble_eq_true rfl) (Nat.le_of_ble_eq_true rfl) (Nat.le_of_ble_eq_true rfl) rfl rfl rfl (fun v1651 h1650 q1652 => ?_)
              obtain ⟨rfl, K1648, P1649⟩ := q1652
              have f1653 := f1644.keep K1648 (allS gR (allS gF (allS gS all0)))
              have f1654 := f1645.keep K1648
              have f1655 := f1646.keep K1648 (ninS ne_rg1591.1 (ninS ne_rg1591.2.1 (ninS ne_rg1591.2.2 nin0)))
              have f1656 := f1647.keep K1648 (ninS ne_rg1618.1 (ninS ne_rg1618.2.1 (ninS ne_rg1618.2.2 nin0)))
              show G w _ h1650 6 13 147 #[.val (.int p0), .val (.int p1), .val (.int p2), .val (.long p3), .second, .val (.long p4), .second, .val (.long p5), .second, .val (.int (1 : Int32)), .val (.int ((1 : Int32) + (p1 &&& (3 : Int32)))), .val (.int (0 : Int32)), .val (.int (1 : Int32)), .val (.int n), .val (.int (1 : Int32)), .val (.ref b1571), .unset] []
              refine G.more (k' := 7) (n' := 15) (Nat.le_of_ble_eq_true rfl) (Nat.le_of_ble_eq_true rfl) ?_
              exact JE _ f1653 n (1 : Int32) b1571 R F S kR kF kS rg1591 kG1592 ge_rg1591 ne_rg1591.1 ne_rg1591.2.1 ne_rg1591.2.2 f1655 P1649
          · refine g_iload C (pc' := 90) at_88 rfl rfl ?_
            refine g_iconst C (pc' := 91) (v := (1 : Int32)) at_90 (by decide) rfl ?_
            refine g_icN C (pc' := 94) at_91 rfl (says_f (cd := .lt) (h1)) rfl ?_
            refine g_aload C (pc' := 96) at_94 rfl rfl rfl ?_
            refine g_iload C (pc' := 98) at_96 rfl rfl ?_
            refine g_lload C (pc' := 100) at_98 rfl rfl ?_
            refine g_virtual C (pc' := 103) (k' := 6) (n' := 13) (argsL := [(.int (0 : Int32)), (.long p4)]) (rest := []) (wd hw 34 rfl) (wd hw 35 rfl) (nfSel (wd hw 37 rfl)) (wd hw 37 rfl) (wd hw 36 rfl) (wd hw 6 rfl) (wd hw 38 rfl) (by decide) at_100 pd_4 rfl rfl rfl f1608 (add0_0_1 l Z a0 hw n0 h1604 f1607 s_EMPTY H b1571 R F S kR kF kS ((1 : Int32) + (p1 &&& (3 : Int32))) (0 : Int32) (1 : Int32) (.ref rg1591) p4 (own_m1 (own_M p1).1) P1603) (Nat.le_of_ble_eq_true rfl) (Nat.le_of_ble_eq_true rfl) (Nat.le_of_ble_eq_true rfl) (Nat.le_of_ble_eq_true rfl) rfl rfl rfl (fun v1664 h1663 q1665 => ?_)
            obtain ⟨rfl, rg1657, kG1658, hg1659, K1660, Ag1661, P1662⟩ := q1665
            have ne_b1571_rg1657 : b1571 ≠ rg1657 := Nat.ne_of_lt (Nat.lt_of_lt_of_le f1608.lt hg1659)
            have ne_rg1591_rg1657 : rg1591 ≠ rg1657 := Nat.ne_of_lt (Nat.lt_of_lt_of_le f1609.lt hg1659)
            have ge_rg1657 : n0 ≤ rg1657 := Nat.le_trans (f1607.1 ▸ f1607.2.1) hg1659
            have ne_rg1657 := own_rc_ne P1603 hg1659
            have f1666 := f1607.keep K1660 (allS gR (allS gF (allS gS all0)))
            have f1667 := f1608.keep K1660
            have f1668 := f1609.keep K1660 (ninS ne_rg1591.1 (ninS ne_rg1591.2.1 (ninS ne_rg1591.2.2 nin0)))
            show G w _ h1663 6 13 103 #[.val (.int p0), .val (.int p1), .val (.int p2), .val (.long p3), .second, .val (.long p4), .second, .val (.long p5), .second, .val (.int (1 : Int32)), .val (.int ((1 : Int32) + (p1 &&& (3 : Int32)))), .val (.int (0 : Int32)), .val (.int (1 : Int32)), .val (.int n), .val (.int dr), .val (.ref b1571), .unset] []
            refine g_iload C (pc' := 105) at_103 rfl rfl ?_
            refine g_iconst C (pc' := 106) (v := (2 : Int32)) at_105 (by decide) rfl ?_
            refine g_icN C (pc' := 109) at_106 rfl (says_f (cd := .lt) (h2)) rfl ?_
            refine g_aload C (pc' := 111) at_109 rfl rfl rfl ?_
            refine g_iload C (pc' := 113) at_111 rfl rfl ?_
            refine g_lload C (pc' := 115) at_113 rfl rfl ?_
            refine g_ldc2Long C (pc' := 118) (wd hw 72 rfl) at_115 rfl ?_
            refine g_lxor C (pc' := 119) at_118 rfl rfl ?_
            refine g_virtual C (pc' := 122) (k' := 7) (n' := 15) (argsL := [(.int (0 : Int32)), (.long (p4 ^^^ (-1 : Int64)))]) (rest := []) (wd hw 34 rfl) (wd hw 35 rfl) (nfSel (wd hw 37 rfl)) (wd hw 37 rfl) (wd hw 36 rfl) (wd hw 6 rfl) (wd hw 38 rfl) (by decide) at_119 pd_4 rfl rfl rfl f1667 (add1_0_1 l Z a0 hw n0 h1663 f1666 s_EMPTY H b1571 R F S kR kF kS ((1 : Int32) + (p1 &&& (3 : Int32))) (0 : Int32) (1 : Int32) (.ref rg1591) (p4 ^^^ (-1 : Int64)) rg1657 ge_rg1657 kG1658 p4 Ag1661 ne_rg1657.1 ne_rg1657.2.1 ne_rg1657.2.2 (own_m2 hn h2) P1662) (Nat.le_of_ble_eq_true rfl) (Nat.le_of_ble_eq_true rfl) (Nat.le_of_ble_eq_true rfl) (Nat.le_of_ble_eq_true rfl) rfl rfl rfl (fun v1676 h1675 q1677 => ?_)
            obtain ⟨rfl, rg1669, kG1670, hg1671, K1672, Ag1673, P1674⟩ := q1677
            have ne_b1571_rg1669 : b1571 ≠ rg1669 := Nat.ne_of_lt (Nat.lt_of_lt_of_le f1667.lt hg1671)
            have ne_rg1591_rg1669 : rg1591 ≠ rg1669 := Nat.ne_of_lt (Nat.lt_of_lt_of_le f1668.lt hg1671)
            have ne_rg1657_rg1669 : rg1657 ≠ rg1669 := Nat.ne_of_lt (Nat.lt_of_lt_of_le Ag1661.lt hg1671)
            have ge_rg1669 : n0 ≤ rg1669 := Nat.le_trans (f1666.1 ▸ f1666.2.1) hg1671
            have ne_rg1669 := own_rc_ne P1662 hg1671
            have f1678 := f1666.keep K1672 (allS gR (allS gF (allS gS all0)))
            have f1679 := f1667.keep K1672
            have f1680 := f1668.keep K1672 (ninS ne_rg1591.1 (ninS ne_rg1591.2.1 (ninS ne_rg1591.2.2 nin0)))
            have f1681 := Ag1661.keep K1672 (ninS ne_rg1657.1 (ninS ne_rg1657.2.1 (ninS ne_rg1657.2.2 nin0)))
            show G w _ h1675 7 15 122 #[.val (.int p0), .val (.int p1), .val (.int p2), .val (.long p3), .second, .val (.long p4), .second, .val (.long p5), .second, .val (.int (1 : Int32)), .val (.int ((1 : Int32) + (p1 &&& (3 : Int32)))), .val (.int (0 : Int32)), .val (.int (1 : Int32)), .val (.int n), .val (.int dr), .val (.ref b1571), .unset] []
            refine g_iload C (pc' := 124) at_122 rfl rfl ?_
            refine g_iconst C (pc' := 125) (v := (1 : Int32)) at_124 (by decide) rfl ?_
            refine g_icN C (pc' := 128) at_125 rfl (says_f (cd := .lt) (h1)) rfl ?_
            rcases hd with rfl | rfl
            · refine g_iload C (pc' := 130) at_128 rfl rfl ?_
              refine g_ifY C (pc' := 140) at_130 rfl (by decide) (by decide) rfl ?_
              refine g_aload C (pc' := 142) at_140 rfl rfl rfl ?_
              refine g_iload C (pc' := 144) at_142 rfl rfl ?_
              refine g_virtual C (pc' := 147) (k' := 7) (n' := 15) (argsL := [(.int (0 : Int32))]) (rest := []) (wd hw 26 rfl) (wd hw 27 rfl) (nfSel (wd hw 29 rfl)) (wd hw 29 rfl) (wd hw 28 rfl) (wd hw 6 rfl) (wd hw 30 rfl) (by decide) at_144 pd_3 rfl rfl rfl f1679 (clear_0 l Z a0 hw n0 h1675 f1678 s_EMPTY H b1571 R F S kR kF kS (1 : Int32) ((1 : Int32) + (p1 &&& (3 : Int32))) (0 : Int32) (0 : Int32) (2 : Int32) (1 : Int32) (.ref rg1669) (.ref rg1591) P1674) (Nat.le_of_ble_eq_true rfl) (Nat.le_of_ble_eq_true rfl) (Nat.le_of_ble_eq_true rfl) (Nat.le_of_ble_eq_true rfl) rfl rfl rfl (fun v1685 h1684 q1686 => ?_)
              obtain ⟨rfl, K1682, P1683⟩ := q1686
              have f1687 := f1678.keep K1682 (allS gR (allS gF (allS gS all0)))
              have f1688 := f1679.keep K1682
              have f1689 := f1680.keep K1682 (ninS ne_rg1591.1 (ninS ne_rg1591.2.1 (ninS ne_rg1591.2.2 nin0)))
              have f1690 := f1681.keep K1682 (ninS ne_rg1657.1 (ninS ne_rg1657.2.1 (ninS ne_rg1657.2.2 nin0)))
              have f1691 := Ag1673.keep K1682 (ninS ne_rg1669.1 (ninS ne_rg1669.2.1 (ninS ne_rg1669.2.2 nin0)))
              show G w _ h1684 7 15 147 #[.val (.int p0), .val (.int p1), .val (.int p2), .val (.long p3), .second, .val (.long p4), .second, .val (.long p5), .second, .val (.int (1 : Int32)), .val (.int ((1 : Int32) + (p1 &&& (3 : Int32)))), .val (.int (0 : Int32)), .val (.int (1 : Int32)), .val (.int n), .val (.int (0 : Int32)), .val (.ref b1571), .unset] []
              refine G.more (k' := 7) (n' := 15) (Nat.le_of_ble_eq_true rfl) (Nat.le_of_ble_eq_true rfl) ?_
              exact JE _ f1687 n (0 : Int32) b1571 R F S kR kF kS rg1591 kG1592 ge_rg1591 ne_rg1591.1 ne_rg1591.2.1 ne_rg1591.2.2 f1689 P1683
            · refine g_iload C (pc' := 130) at_128 rfl rfl ?_
              refine g_ifN C (pc' := 133) at_130 rfl (by decide) rfl ?_
              refine g_aload C (pc' := 135) at_133 rfl rfl rfl ?_
              refine g_iload C (pc' := 137) at_135 rfl rfl ?_
              refine g_virtual C (pc' := 140) (k' := 7) (n' := 15) (argsL := [(.int (0 : Int32))]) (rest := []) (wd hw 73 rfl) (wd hw 74 rfl) (nfSel (wd hw 76 rfl)) (wd hw 76 rfl) (wd hw 75 rfl) (wd hw 6 rfl) (wd hw 77 rfl) (by decide) at_137 pd_3 rfl rfl rfl f1679 (rem2_0_1 l Z a0 hw n0 h1675 f1678 s_EMPTY H b1571 R F S kR kF kS ((1 : Int32) + (p1 &&& (3 : Int32))) (0 : Int32) (1 : Int32) (.ref rg1591) rg1669 kG1670 p4 (p4 ^^^ (-1 : Int64)) Ag1673 ne_rg1669.1 ne_rg1669.2.1 ne_rg1669.2.2 P1674) (Nat.le_of_ble_eq_true rfl) (Nat.le_of_ble_eq_true rfl) (Nat.le_of_ble_eq_true rfl) (Nat.le_of_ble_eq_true rfl) rfl rfl rfl (fun v1695 h1694 q1696 => ?_)
              obtain ⟨rfl, K1692, P1693⟩ := q1696
              have f1697 := f1678.keep K1692 (allS gR (allS gF (allS gS all0)))
              have f1698 := f1679.keep K1692
              have f1699 := f1680.keep K1692 (ninS ne_rg1591.1 (ninS ne_rg1591.2.1 (ninS ne_rg1591.2.2 nin0)))
              have f1700 := f1681.keep K1692 (ninS ne_rg1657.1 (ninS ne_rg1657.2.1 (ninS ne_rg1657.2.2 nin0)))
              have f1701 := Ag1673.keep K1692 (ninS ne_rg1669.1 (ninS ne_rg1669.2.1 (ninS ne_rg1669.2.2 nin0)))
              show G w _ h1694 7 15 140 #[.val (.int p0), .val (.int p1), .val (.int p2), .val (.long p3), .second, .val (.long p4), .second, .val (.long p5), .second, .val (.int (1 : Int32)), .val (.int ((1 : Int32) + (p1 &&& (3 : Int32)))), .val (.int (0 : Int32)), .val (.int (1 : Int32)), .val (.int n), .val (.int (1 : Int32)), .val (.ref b1571), .unset] []
              refine g_aload C (pc' := 142) at_140 rfl rfl rfl ?_
              refine g_iload C (pc' := 144) at_142 rfl rfl ?_
              refine g_virtual C (pc' := 147) (k' := 7) (n' := 15) (argsL := [(.int (0 : Int32))]) (rest := []) (wd hw 26 rfl) (wd hw 27 rfl) (nfSel (wd hw 29 rfl)) (wd hw 29 rfl) (wd hw 28 rfl) (wd hw 6 rfl) (wd hw 30 rfl) (by decide) at_144 pd_3 rfl rfl rfl f1698 (clear_0 l Z a0 hw n0 h1694 f1697 s_EMPTY H b1571 R F S kR kF kS (1 : Int32) ((1 : Int32) + (p1 &&& (3 : Int32))) (1 : Int32) (0 : Int32) (1 : Int32) (1 : Int32) (.ref rg1669) (.ref rg1591) P1693) (Nat.le_of_ble_eq_true rfl) (Nat.le_of_ble_eq_true rfl) (Nat.le_of_ble_eq_true rfl) (Nat.le_of_ble_eq_true rfl) rfl rfl rfl (fun v1705 h1704 q1706 => ?_)
              obtain ⟨rfl, K1702, P1703⟩ := q1706
              have f1707 := f1697.keep K1702 (allS gR (allS gF (allS gS all0)))
              have f1708 := f1698.keep K1702
              have f1709 := f1699.keep K1702 (ninS ne_rg1591.1 (ninS ne_rg1591.2.1 (ninS ne_rg1591.2.2 nin0)))
              have f1710 := f1700.keep K1702 (ninS ne_rg1657.1 (ninS ne_rg1657.2.1 (ninS ne_rg1657.2.2 nin0)))
              have f1711 := f1701.keep K1702 (ninS ne_rg1669.1 (ninS ne_rg1669.2.1 (ninS ne_rg1669.2.2 nin0)))
              show G w _ h1704 7 15 147 #[.val (.int p0), .val (.int p1), .val (.int p2), .val (.long p3), .second, .val (.long p4), .second, .val (.long p5), .second, .val (.int (1 : Int32)), .val (.int ((1 : Int32) + (p1 &&& (3 : Int32)))), .val (.int (0 : Int32)), .val (.int (1 : Int32)), .val (.int n), .val (.int (1 : Int32)), .val (.ref b1571), .unset] []
              refine G.more (k' := 7) (n' := 15) (Nat.le_of_ble_eq_true rfl) (Nat.le_of_ble_eq_true rfl) ?_
              exact JE _ f1707 n (1 : Int32) b1571 R F S kR kF kS rg1591 kG1592 ge_rg1591 ne_rg1591.1 ne_rg1591.2.1 ne_rg1591.2.2 f1709 P1703
      have J35 : ∀ (n : Int32) (hn : ¬ ((1 : Int32) + (p1 &&& (3 : Int32))) < n), G w LQ h 0 0 35 #[.val (.int p0), .val (.int p1), .val (.int p2), .val (.long p3), .second, .val (.long p4), .second, .val (.long p5), .second, .val (.int (1 : Int32)), .val (.int ((1 : Int32) + (p1 &&& (3 : Int32)))), .val (.int (0 : Int32)), .val (.int (1 : Int32)), .unset, .unset, .unset, .unset] [(.int n)] := by
        intro n hn
        refine g_istore C (pc' := 37) (Ls' := #[.val (.int p0), .val (.int p1), .val (.int p2), .val (.long p3), .second, .val (.long p4), .second, .val (.long p5), .second, .val (.int (1 : Int32)), .val (.int ((1 : Int32) + (p1 &&& (3 : Int32)))), .val (.int (0 : Int32)), .val (.int (1 : Int32)), .val (.int n), .unset, .unset, .unset]) at_35 rfl rfl rfl ?_
        refine g_iloadN C (pc' := 38) at_37 rfl rfl ?_
        refine g_iconst C (pc' := 39) (v := (3 : Int32)) at_38 (by decide) rfl ?_
        refine g_iushr C (pc' := 40) at_39 rfl rfl ?_
        refine g_iconst C (pc' := 41) (v := (1 : Int32)) at_40 (by decide) rfl ?_
        refine g_iand C (pc' := 42) at_41 rfl rfl ?_
        refine g_ifB C (pcT := 49) (pc' := 45) at_42 rfl (by decide) rfl rfl (fun hc1712 => ?_) (fun hc1712 => ?_)
        · replace hc1712 : (((p2.toUInt32 >>> ((3 : Int32) &&& 31).toUInt32).toInt32) &&& (1 : Int32)) = (0 : Int32) := hc1712
          refine g_iconst C (pc' := 50) (v := (0 : Int32)) at_49 (by decide) rfl ?_
          refine g_istore C (pc' := 52) (Ls' := #[.val (.int p0), .val (.int p1), .val (.int p2), .val (.long p3), .second, .val (.long p4), .second, .val (.long p5), .second, .val (.int (1 : Int32)), .val (.int ((1 : Int32) + (p1 &&& (3 : Int32)))), .val (.int (0 : Int32)), .val (.int (1 : Int32)), .val (.int n), .val (.int (0 : Int32)), .unset, .unset]) at_50 rfl rfl rfl ?_
          exact J52 _ _ hn (Or.inl rfl)
        · replace hc1712 : ¬ (((p2.toUInt32 >>> ((3 : Int32) &&& 31).toUInt32).toInt32) &&& (1 : Int32)) = (0 : Int32) := hc1712
          refine g_iconst C (pc' := 46) (v := (1 : Int32)) at_45 (by decide) rfl ?_
          refine g_goto C (pc' := 50) at_46 (by decide) rfl ?_
          refine g_istore C (pc' := 52) (Ls' := #[.val (.int p0), .val (.int p1), .val (.int p2), .val (.long p3), .second, .val (.long p4), .second, .val (.long p5), .second, .val (.int (1 : Int32)), .val (.int ((1 : Int32) + (p1 &&& (3 : Int32)))), .val (.int (0 : Int32)), .val (.int (1 : Int32)), .val (.int n), .val (.int (1 : Int32)), .unset, .unset]) at_50 rfl rfl rfl ?_
          exact J52 _ _ hn (Or.inr rfl)
      by_cases hq : ((1 : Int32) + (p1 &&& (3 : Int32))) < (((p2.toUInt32 >>> ((1 : Int32) &&& 31).toUInt32).toInt32) &&& (3 : Int32))
      · refine g_callS C (pc' := 35) (k' := 0) (n' := 0) (argsL := [(.int (((p2.toUInt32 >>> ((1 : Int32) &&& 31).toUInt32).toInt32) &&& (3 : Int32))), (.int ((1 : Int32) + (p1 &&& (3 : Int32))))]) (rest := []) (wd hw 0 rfl) (wd hw 1 rfl) (wd hw 2 rfl) (wd hw 3 rfl) (by decide) at_32 pd_0 rfl rfl rfl (minI_gt l Z a0 hw n0 h O s_EMPTY H (((p2.toUInt32 >>> ((1 : Int32) &&& 31).toUInt32).toInt32) &&& (3 : Int32)) ((1 : Int32) + (p1 &&& (3 : Int32))) hq) (Nat.le_of_ble_eq_true rfl) (Nat.le_of_ble_eq_true rfl) (Nat.le_of_ble_eq_true rfl) (Nat.le_of_ble_eq_true rfl) rfl rfl rfl (fun v1714 h1713 q1715 => ?_)
        obtain ⟨rfl, eh1713⟩ := q1715
        subst h1713
        show G w _ h 0 0 35 #[.val (.int p0), .val (.int p1), .val (.int p2), .val (.long p3), .second, .val (.long p4), .second, .val (.long p5), .second, .val (.int (1 : Int32)), .val (.int ((1 : Int32) + (p1 &&& (3 : Int32)))), .val (.int (0 : Int32)), .val (.int (1 : Int32)), .unset, .unset, .unset, .unset] [(.int ((1 : Int32) + (p1 &&& (3 : Int32))))]
        exact J35 _ own_irr
      · refine g_callS C (pc' := 35) (k' := 0) (n' := 0) (argsL := [(.int (((p2.toUInt32 >>> ((1 : Int32) &&& 31).toUInt32).toInt32) &&& (3 : Int32))), (.int ((1 : Int32) + (p1 &&& (3 : Int32))))]) (rest := []) (wd hw 0 rfl) (wd hw 1 rfl) (wd hw 2 rfl) (wd hw 3 rfl) (by decide) at_32 pd_0 rfl rfl rfl (minI_lt l Z a0 hw n0 h O s_EMPTY H (((p2.toUInt32 >>> ((1 : Int32) &&& 31).toUInt32).toInt32) &&& (3 : Int32)) ((1 : Int32) + (p1 &&& (3 : Int32))) hq) (Nat.le_of_ble_eq_true rfl) (Nat.le_of_ble_eq_true rfl) (Nat.le_of_ble_eq_true rfl) (Nat.le_of_ble_eq_true rfl) rfl rfl rfl (fun v1717 h1716 q1718 => ?_)
        obtain ⟨rfl, eh1716⟩ := q1718
        subst h1716
        show G w _ h 0 0 35 #[.val (.int p0), .val (.int p1), .val (.int p2), .val (.long p3), .second, .val (.long p4), .second, .val (.long p5), .second, .val (.int (1 : Int32)), .val (.int ((1 : Int32) + (p1 &&& (3 : Int32)))), .val (.int (0 : Int32)), .val (.int (1 : Int32)), .unset, .unset, .unset, .unset] [(.int (((p2.toUInt32 >>> ((1 : Int32) &&& 31).toUInt32).toInt32) &&& (3 : Int32)))]
        exact J35 _ hq
    · rw [e2]
      refine g_istore C (pc' := 19) (Ls' := #[.val (.int p0), .val (.int p1), .val (.int p2), .val (.long p3), .second, .val (.long p4), .second, .val (.long p5), .second, .val (.int (1 : Int32)), .val (.int ((1 : Int32) + (p1 &&& (3 : Int32)))), .val (.int (1 : Int32)), .unset, .unset, .unset, .unset, .unset]) at_17 rfl rfl rfl ?_
      refine g_iconst C (pc' := 20) (v := (1 : Int32)) at_19 (by decide) rfl ?_
      refine g_iload C (pc' := 22) at_20 rfl rfl ?_
      refine g_isub C (pc' := 23) at_22 rfl rfl ?_
      rw [show ((1 : Int32) - (1 : Int32)) = (0 : Int32) from by decide]
      refine g_istore C (pc' := 25) (Ls' := #[.val (.int p0), .val (.int p1), .val (.int p2), .val (.long p3), .second, .val (.long p4), .second, .val (.long p5), .second, .val (.int (1 : Int32)), .val (.int ((1 : Int32) + (p1 &&& (3 : Int32)))), .val (.int (1 : Int32)), .val (.int (0 : Int32)), .unset, .unset, .unset, .unset]) at_23 rfl rfl rfl ?_
      refine g_iloadN C (pc' := 26) at_25 rfl rfl ?_
      refine g_iconst C (pc' := 27) (v := (1 : Int32)) at_26 (by decide) rfl ?_
      refine g_iushr C (pc' := 28) at_27 rfl rfl ?_
      refine g_iconst C (pc' := 29) (v := (3 : Int32)) at_28 (by decide) rfl ?_
      refine g_iand C (pc' := 30) at_29 rfl rfl ?_
      refine g_iload C (pc' := 32) at_30 rfl rfl ?_
      have JE : ∀ (h' : Heap) (O' : Old Z n0 h') (n dr : Int32) (c R F S : Addr) (kR kF kS : ClassId) (ro : Addr) (kO : ClassId) (go : n0 ≤ ro) (nR : ro ≠ R) (nF : ro ≠ F) (nS : ro ≠ S) (Ao : Arv Z h' ro kO .long (1 : Int32) [(.long p3)] (.long (0 : Int64))) (P : RC Z n0 h' c R F S kR kF kS (1 : Int32) ((1 : Int32) + (p1 &&& (3 : Int32))) (.ref ro) (.ref s_EMPTY) (0 : Int32) (0 : Int32) (1 : Int32) (0 : Int32)), G w LQ h' 7 15 147 #[.val (.int p0), .val (.int p1), .val (.int p2), .val (.long p3), .second, .val (.long p4), .second, .val (.long p5), .second, .val (.int (1 : Int32)), .val (.int ((1 : Int32) + (p1 &&& (3 : Int32)))), .val (.int (1 : Int32)), .val (.int (0 : Int32)), .val (.int n), .val (.int dr), .val (.ref c), .unset] [] := by
        intro h' O' n dr c R F S kR kF kS ro kO go nR nF nS Ao P
        obtain ⟨gc, gR, gF, gS, n_c_R, n_c_F, n_c_S, n_R_F, n_R_S, n_F_S, Ov, E0, -⟩ := id P
        refine g_aload C (pc' := 149) at_147 rfl rfl rfl ?_
        refine g_iload C (pc' := 151) at_149 rfl rfl ?_
        refine g_virtual C (pc' := 154) (k' := 7) (n' := 15) (argsL := [(.int (1 : Int32))]) (rest := []) (wd hw 62 rfl) (wd hw 63 rfl) (nfSel (wd hw 65 rfl)) (wd hw 65 rfl) (wd hw 64 rfl) (wd hw 6 rfl) (wd hw 66 rfl) (by decide) at_151 pd_10 rfl rfl rfl E0 (size_1_0 l Z a0 hw n0 h' O' s_EMPTY H c R F S kR kF kS (1 : Int32) ((1 : Int32) + (p1 &&& (3 : Int32))) (0 : Int32) (0 : Int32) (1 : Int32) (.ref ro) (.ref s_EMPTY) P) (Nat.le_of_ble_eq_true rfl) (Nat.le_of_ble_eq_true rfl) (Nat.le_of_ble_eq_true rfl) (Nat.le_of_ble_eq_true rfl) rfl rfl rfl (fun v1720 h1719 q1721 => ?_)
        obtain ⟨rfl, eh1719⟩ := q1721
        subst h1719
        show G w _ h' 7 15 154 #[.val (.int p0), .val (.int p1), .val (.int p2), .val (.long p3), .second, .val (.long p4), .second, .val (.long p5), .second, .val (.int (1 : Int32)), .val (.int ((1 : Int32) + (p1 &&& (3 : Int32)))), .val (.int (1 : Int32)), .val (.int (0 : Int32)), .val (.int n), .val (.int dr), .val (.ref c), .unset] [(.int (0 : Int32))]
        refine g_ifN C (pc' := 157) at_154 rfl (by decide) rfl ?_
        refine g_aload C (pc' := 159) at_157 rfl rfl rfl ?_
        refine g_iload C (pc' := 161) at_159 rfl rfl ?_
        refine g_virtual C (pc' := 164) (k' := 7) (n' := 15) (argsL := [(.int (0 : Int32))]) (rest := []) (wd hw 62 rfl) (wd hw 63 rfl) (nfSel (wd hw 65 rfl)) (wd hw 65 rfl) (wd hw 64 rfl) (wd hw 6 rfl) (wd hw 66 rfl) (by decide) at_161 pd_10 rfl rfl rfl E0 (size_0_1 l Z a0 hw n0 h' O' s_EMPTY H c R F S kR kF kS (1 : Int32) ((1 : Int32) + (p1 &&& (3 : Int32))) (0 : Int32) (0 : Int32) (0 : Int32) (.ref ro) (.ref s_EMPTY) P) (Nat.le_of_ble_eq_true rfl) (Nat.le_of_ble_eq_true rfl) (Nat.le_of_ble_eq_true rfl) (Nat.le_of_ble_eq_true rfl) rfl rfl rfl (fun v1723 h1722 q1724 => ?_)
        obtain ⟨rfl, eh1722⟩ := q1724
        subst h1722
        show G w _ h' 7 15 164 #[.val (.int p0), .val (.int p1), .val (.int p2), .val (.long p3), .second, .val (.long p4), .second, .val (.long p5), .second, .val (.int (1 : Int32)), .val (.int ((1 : Int32) + (p1 &&& (3 : Int32)))), .val (.int (1 : Int32)), .val (.int (0 : Int32)), .val (.int n), .val (.int dr), .val (.ref c), .unset] [(.int (1 : Int32))]
        refine g_iconst C (pc' := 165) (v := (1 : Int32)) at_164 (by decide) rfl ?_
        refine g_icN C (pc' := 168) at_165 rfl (by decide) rfl ?_
        refine g_aload C (pc' := 170) at_168 rfl rfl rfl ?_
        refine g_iload C (pc' := 172) at_170 rfl rfl ?_
        refine g_iconst C (pc' := 173) (v := (0 : Int32)) at_172 (by decide) rfl ?_
        refine g_iconst C (pc' := 174) (v := (0 : Int32)) at_173 (by decide) rfl ?_
        refine g_virtual C (pc' := 177) (k' := 7) (n' := 15) (argsL := [(.int (0 : Int32)), (.int (0 : Int32)), (.int (0 : Int32))]) (rest := []) (wd hw 67 rfl) (wd hw 68 rfl) (nfSel (wd hw 70 rfl)) (wd hw 70 rfl) (wd hw 69 rfl) (wd hw 6 rfl) (wd hw 71 rfl) (by decide) at_174 pd_11 rfl rfl rfl E0 (get_0_1 l Z a0 hw n0 h' O' s_EMPTY H c R F S kR kF kS ((1 : Int32) + (p1 &&& (3 : Int32))) (0 : Int32) (1 : Int32) (0 : Int32) (.ref s_EMPTY) ro kO p3 Ao P) (Nat.le_of_ble_eq_true rfl) (Nat.le_of_ble_eq_true rfl) (Nat.le_of_ble_eq_true rfl) (Nat.le_of_ble_eq_true rfl) rfl rfl rfl (fun v1726 h1725 q1727 => ?_)
        obtain ⟨rfl, eh1725⟩ := q1727
        subst h1725
        show G w _ h' 7 15 177 #[.val (.int p0), .val (.int p1), .val (.int p2), .val (.long p3), .second, .val (.long p4), .second, .val (.long p5), .second, .val (.int (1 : Int32)), .val (.int ((1 : Int32) + (p1 &&& (3 : Int32)))), .val (.int (1 : Int32)), .val (.int (0 : Int32)), .val (.int n), .val (.int dr), .val (.ref c), .unset] [(.long p3)]
        refine g_lloadN C (pc' := 178) at_177 rfl rfl ?_
        refine g_lcmp C (pc' := 179) at_178 rfl rfl ?_
        refine g_ifN C (pc' := 182) at_179 rfl (says_f (cd := .ne) (fun q => q ((lw_eq _ _).mpr rfl))) rfl ?_
        refine g_iconst C (pc' := 183) (v := (1 : Int32)) at_182 (by decide) rfl ?_
        refine g_goto C (pc' := 187) at_183 (by decide) rfl ?_
        refine g_istore C (pc' := 189) (Ls' := #[.val (.int p0), .val (.int p1), .val (.int p2), .val (.long p3), .second, .val (.long p4), .second, .val (.long p5), .second, .val (.int (1 : Int32)), .val (.int ((1 : Int32) + (p1 &&& (3 : Int32)))), .val (.int (1 : Int32)), .val (.int (0 : Int32)), .val (.int n), .val (.int dr), .val (.ref c), .val (.int (1 : Int32))]) at_187 rfl rfl rfl ?_
        refine g_iload C (pc' := 191) at_189 rfl rfl ?_
        refine g_ifY C (pc' := 196) at_191 rfl (by decide) (by decide) rfl ?_
        refine g_aload C (pc' := 198) at_196 rfl rfl rfl ?_
        refine g_iload C (pc' := 200) at_198 rfl rfl ?_
        refine g_lload C (pc' := 202) at_200 rfl rfl ?_
        refine g_virtual C (pc' := 205) (k' := 8) (n' := 16) (argsL := [(.int (1 : Int32)), (.long p5)]) (rest := []) (wd hw 34 rfl) (wd hw 35 rfl) (nfSel (wd hw 37 rfl)) (wd hw 37 rfl) (wd hw 36 rfl) (wd hw 6 rfl) (wd hw 38 rfl) (by decide) at_202 pd_4 rfl rfl rfl E0 (add0_1_1 l Z a0 hw n0 h' O' s_EMPTY H c R F S kR kF kS ((1 : Int32) + (p1 &&& (3 : Int32))) (0 : Int32) (1 : Int32) (.ref ro) p5 (own_m1 (own_M p1).1) P) (Nat.le_of_ble_eq_true rfl) (Nat.le_of_ble_eq_true rfl) (Nat.le_of_ble_eq_true rfl) (Nat.le_of_ble_eq_true rfl) rfl rfl rfl (fun v1735 h1734 q1736 => ?_)
        obtain ⟨rfl, rg1728, kG1729, hg1730, K1731, Ag1732, P1733⟩ := q1736
        have ne_c_rg1728 : c ≠ rg1728 := Nat.ne_of_lt (Nat.lt_of_lt_of_le E0.lt hg1730)
        have ne_ro_rg1728 : ro ≠ rg1728 := Nat.ne_of_lt (Nat.lt_of_lt_of_le Ao.lt hg1730)
        have ge_rg1728 : n0 ≤ rg1728 := Nat.le_trans (O'.1 ▸ O'.2.1) hg1730
        have ne_rg1728 := own_rc_ne P hg1730
        have f1737 := O'.keep K1731 (allS gR (allS gF (allS gS all0)))
        have f1738 := E0.keep K1731
        have f1739 := Ao.keep K1731 (ninS nR (ninS nF (ninS nS nin0)))
        show G w _ h1734 8 16 205 #[.val (.int p0), .val (.int p1), .val (.int p2), .val (.long p3), .second, .val (.long p4), .second, .val (.long p5), .second, .val (.int (1 : Int32)), .val (.int ((1 : Int32) + (p1 &&& (3 : Int32)))), .val (.int (1 : Int32)), .val (.int (0 : Int32)), .val (.int n), .val (.int dr), .val (.ref c), .val (.int (1 : Int32))] []
        refine g_aload C (pc' := 207) at_205 rfl rfl rfl ?_
        refine g_iload C (pc' := 209) at_207 rfl rfl ?_
        refine g_iconst C (pc' := 210) (v := (0 : Int32)) at_209 (by decide) rfl ?_
        refine g_iconst C (pc' := 211) (v := (0 : Int32)) at_210 (by decide) rfl ?_
        refine g_virtual C (pc' := 214) (k' := 8) (n' := 16) (argsL := [(.int (1 : Int32)), (.int (0 : Int32)), (.int (0 : Int32))]) (rest := []) (wd hw 67 rfl) (wd hw 68 rfl) (nfSel (wd hw 70 rfl)) (wd hw 70 rfl) (wd hw 69 rfl) (wd hw 6 rfl) (wd hw 71 rfl) (by decide) at_211 pd_11 rfl rfl rfl f1738 (get_1_1 l Z a0 hw n0 h1734 f1737 s_EMPTY H c R F S kR kF kS ((1 : Int32) + (p1 &&& (3 : Int32))) (0 : Int32) (1 : Int32) (1 : Int32) (.ref ro) rg1728 kG1729 p5 Ag1732 P1733) (Nat.le_of_ble_eq_true rfl) (Nat.le_of_ble_eq_true rfl) (Nat.le_of_ble_eq_true rfl) (Nat.le_of_ble_eq_true rfl) rfl rfl rfl (fun v1741 h1740 q1742 => ?_)
        obtain ⟨rfl, eh1740⟩ := q1742
        subst h1740
        show G w _ h1734 8 16 214 #[.val (.int p0), .val (.int p1), .val (.int p2), .val (.long p3), .second, .val (.long p4), .second, .val (.long p5), .second, .val (.int (1 : Int32)), .val (.int ((1 : Int32) + (p1 &&& (3 : Int32)))), .val (.int (1 : Int32)), .val (.int (0 : Int32)), .val (.int n), .val (.int dr), .val (.ref c), .val (.int (1 : Int32))] [(.long p5)]
        refine g_lload C (pc' := 216) at_214 rfl rfl ?_
        refine g_lcmp C (pc' := 217) at_216 rfl rfl ?_
        refine g_ifN C (pc' := 220) at_217 rfl (says_f (cd := .ne) (fun q => q ((lw_eq _ _).mpr rfl))) rfl ?_
        refine g_iconst C (pc' := 221) (v := (1 : Int32)) at_220 (by decide) rfl ?_
        refine g_goto C (pc' := 225) at_221 (by decide) rfl ?_
        exact g_zreturn C at_225 rfl rfl (Nat.le_of_ble_eq_true rfl) (Nat.le_of_ble_eq_true rfl) (rfl)
      have J52 : ∀ (n dr : Int32) (hn : ¬ ((1 : Int32) + (p1 &&& (3 : Int32))) < n) (hd : dr = 0 ∨ dr = 1), G w LQ h 0 0 52 #[.val (.int p0), .val (.int p1), .val (.int p2), .val (.long p3), .second, .val (.long p4), .second, .val (.long p5), .second, .val (.int (1 : Int32)), .val (.int ((1 : Int32) + (p1 &&& (3 : Int32)))), .val (.int (1 : Int32)), .val (.int (0 : Int32)), .val (.int n), .val (.int dr), .unset, .unset] [] := by
        intro n dr hn hd
        refine g_new C (pc' := 55) (k' := 1) (n' := 5) (wd hw 4 rfl) (wd hw 5 rfl) (wd hw 6 rfl) at_52 (by decide) (by decide) rfl rfl rfl (fun h1743 b1744 ex1745 E1746 A1747 D1748 => ?_)
        have ge_b1744 : n0 ≤ b1744 := by rw [ex1745]; exact O.1 ▸ O.2.1
        have f1749 := O.ext E1746
        have F__width_b1744 : Fld Z h1743 b1744 "com/example/request_throttle/requestthrottle/RingColumn" "_width" "I" (.int (0 : Int32)) := D1748 (Or.inr (wd hw 14 rfl)) (ty := .int) (by decide)
        have F__most_b1744 : Fld Z h1743 b1744 "com/example/request_throttle/requestthrottle/RingColumn" "_most" "I" (.int (0 : Int32)) := D1748 (Or.inr (wd hw 16 rfl)) (ty := .int) (by decide)
        have F__rings_b1744 : Fld Z h1743 b1744 "com/example/request_throttle/requestthrottle/RingColumn" "_rings" "[[J" .null := D1748 (Or.inr (wd hw 20 rfl)) (ty := (.array (.array .long))) (by decide)
        have F__first_b1744 : Fld Z h1743 b1744 "com/example/request_throttle/requestthrottle/RingColumn" "_first" "[I" .null := D1748 (Or.inr (wd hw 23 rfl)) (ty := (.array .int)) (by decide)
        have F__size_b1744 : Fld Z h1743 b1744 "com/example/request_throttle/requestthrottle/RingColumn" "_size" "[I" .null := D1748 (Or.inr (wd hw 25 rfl)) (ty := (.array .int)) (by decide)
        refine g_dup C (pc' := 56) at_55 rfl rfl rfl ?_
        refine g_iload C (pc' := 58) at_56 rfl rfl ?_
        refine g_iload C (pc' := 60) at_58 rfl rfl ?_
        refine g_iconst C (pc' := 61) (v := (2 : Int32)) at_60 (by decide) rfl ?_
        refine g_special C (pc' := 64) (k' := 4) (n' := 11) (argsL := [(.int (1 : Int32)), (.int ((1 : Int32) + (p1 &&& (3 : Int32)))), (.int (2 : Int32))]) (rest := [(.ref b1744)]) (wd hw 7 rfl) (wd hw 8 rfl) (wd hw 6 rfl) (wd hw 9 rfl) (by decide) rfl at_61 pd_1 rfl rfl rfl (rc_init l Z a0 hw n0 h1743 f1749 s_EMPTY H b1744 ge_b1744 (1 : Int32) ((1 : Int32) + (p1 &&& (3 : Int32))) A1747 F__width_b1744 F__most_b1744 F__rings_b1744 F__first_b1744 F__size_b1744) (Nat.le_of_ble_eq_true rfl) (Nat.le_of_ble_eq_true rfl) (Nat.le_of_ble_eq_true rfl) (Nat.le_of_ble_eq_true rfl) rfl rfl rfl (fun v1753 h1752 q1754 => ?_)
        obtain ⟨rfl, K1750, R, F, S, kR, kF, kS, hR, hF, hS, P1751⟩ := q1754
        have f1755 := f1749.keep K1750 (allS ge_b1744 all0)
        have f1756 := A1747.keep K1750
        obtain ⟨gc, gR, gF, gS, n_c_R, n_c_F, n_c_S, n_R_F, n_R_S, n_F_S, -⟩ := id P1751
        show G w _ h1752 4 11 64 #[.val (.int p0), .val (.int p1), .val (.int p2), .val (.long p3), .second, .val (.long p4), .second, .val (.long p5), .second, .val (.int (1 : Int32)), .val (.int ((1 : Int32) + (p1 &&& (3 : Int32)))), .val (.int (1 : Int32)), .val (.int (0 : Int32)), .val (.int n), .val (.int dr), .unset, .unset] [(.ref b1744)]
        refine g_astore C (pc' := 66) (Ls' := #[.val (.int p0), .val (.int p1), .val (.int p2), .val (.long p3), .second, .val (.long p4), .second, .val (.long p5), .second, .val (.int (1 : Int32)), .val (.int ((1 : Int32) + (p1 &&& (3 : Int32)))), .val (.int (1 : Int32)), .val (.int (0 : Int32)), .val (.int n), .val (.int dr), .val (.ref b1744), .unset]) at_64 rfl rfl rfl rfl ?_
        refine g_aload C (pc' := 68) at_66 rfl rfl rfl ?_
        refine g_iload C (pc' := 70) at_68 rfl rfl ?_
        refine g_virtual C (pc' := 73) (k' := 4) (n' := 11) (argsL := [(.int (0 : Int32))]) (rest := []) (wd hw 26 rfl) (wd hw 27 rfl) (nfSel (wd hw 29 rfl)) (wd hw 29 rfl) (wd hw 28 rfl) (wd hw 6 rfl) (wd hw 30 rfl) (by decide) at_70 pd_3 rfl rfl rfl f1756 (clear_0 l Z a0 hw n0 h1752 f1755 s_EMPTY H b1744 R F S kR kF kS (1 : Int32) ((1 : Int32) + (p1 &&& (3 : Int32))) (0 : Int32) (0 : Int32) (0 : Int32) (0 : Int32) .null .null P1751) (Nat.le_of_ble_eq_true rfl) (Nat.le_of_ble_eq_true rfl) (Nat.le_of_ble_eq_true rfl) (Nat.le_of_ble_eq_true rfl) rfl rfl rfl (fun v1760 h1759 q1761 => ?_)
        obtain ⟨rfl, K1757, P1758⟩ := q1761
        have f1762 := f1755.keep K1757 (allS gR (allS gF (allS gS all0)))
        have f1763 := f1756.keep K1757
        show G w _ h1759 4 11 73 #[.val (.int p0), .val (.int p1), .val (.int p2), .val (.long p3), .second, .val (.long p4), .second, .val (.long p5), .second, .val (.int (1 : Int32)), .val (.int ((1 : Int32) + (p1 &&& (3 : Int32)))), .val (.int (1 : Int32)), .val (.int (0 : Int32)), .val (.int n), .val (.int dr), .val (.ref b1744), .unset] []
        refine g_aload C (pc' := 75) at_73 rfl rfl rfl ?_
        refine g_iload C (pc' := 77) at_75 rfl rfl ?_
        refine g_lloadN C (pc' := 78) at_77 rfl rfl ?_
        refine g_virtual C (pc' := 81) (k' := 5) (n' := 12) (argsL := [(.int (0 : Int32)), (.long p3)]) (rest := []) (wd hw 34 rfl) (wd hw 35 rfl) (nfSel (wd hw 37 rfl)) (wd hw 37 rfl) (wd hw 36 rfl) (wd hw 6 rfl) (wd hw 38 rfl) (by decide) at_78 pd_4 rfl rfl rfl f1763 (add0_0_1 l Z a0 hw n0 h1759 f1762 s_EMPTY H b1744 R F S kR kF kS ((1 : Int32) + (p1 &&& (3 : Int32))) (0 : Int32) (0 : Int32) .null p3 (own_m1 (own_M p1).1) P1758) (Nat.le_of_ble_eq_true rfl) (Nat.le_of_ble_eq_true rfl) (Nat.le_of_ble_eq_true rfl) (Nat.le_of_ble_eq_true rfl) rfl rfl rfl (fun v1771 h1770 q1772 => ?_)
        obtain ⟨rfl, rg1764, kG1765, hg1766, K1767, Ag1768, P1769⟩ := q1772
        have ne_b1744_rg1764 : b1744 ≠ rg1764 := Nat.ne_of_lt (Nat.lt_of_lt_of_le f1763.lt hg1766)
        have ge_rg1764 : n0 ≤ rg1764 := Nat.le_trans (f1762.1 ▸ f1762.2.1) hg1766
        have ne_rg1764 := own_rc_ne P1758 hg1766
        have f1773 := f1762.keep K1767 (allS gR (allS gF (allS gS all0)))
        have f1774 := f1763.keep K1767
        show G w _ h1770 5 12 81 #[.val (.int p0), .val (.int p1), .val (.int p2), .val (.long p3), .second, .val (.long p4), .second, .val (.long p5), .second, .val (.int (1 : Int32)), .val (.int ((1 : Int32) + (p1 &&& (3 : Int32)))), .val (.int (1 : Int32)), .val (.int (0 : Int32)), .val (.int n), .val (.int dr), .val (.ref b1744), .unset] []
        refine g_aload C (pc' := 83) at_81 rfl rfl rfl ?_
        refine g_iload C (pc' := 85) at_83 rfl rfl ?_
        refine g_virtual C (pc' := 88) (k' := 5) (n' := 12) (argsL := [(.int (1 : Int32))]) (rest := []) (wd hw 26 rfl) (wd hw 27 rfl) (nfSel (wd hw 29 rfl)) (wd hw 29 rfl) (wd hw 28 rfl) (wd hw 6 rfl) (wd hw 30 rfl) (by decide) at_85 pd_3 rfl rfl rfl f1774 (clear_1 l Z a0 hw n0 h1770 f1773 s_EMPTY H b1744 R F S kR kF kS (1 : Int32) ((1 : Int32) + (p1 &&& (3 : Int32))) (0 : Int32) (0 : Int32) (1 : Int32) (0 : Int32) (.ref rg1764) .null P1769) (Nat.le_of_ble_eq_true rfl) (Nat.le_of_ble_eq_true rfl) (Nat.le_of_ble_eq_true rfl) (Nat.le_of_ble_eq_true rfl) rfl rfl rfl (fun v1778 h1777 q1779 => ?_)
        obtain ⟨rfl, K1775, P1776⟩ := q1779
        have f1780 := f1773.keep K1775 (allS gR (allS gF (allS gS all0)))
        have f1781 := f1774.keep K1775
        have f1782 := Ag1768.keep K1775 (ninS ne_rg1764.1 (ninS ne_rg1764.2.1 (ninS ne_rg1764.2.2 nin0)))
        show G w _ h1777 5 12 88 #[.val (.int p0), .val (.int p1), .val (.int p2), .val (.long p3), .second, .val (.long p4), .second, .val (.long p5), .second, .val (.int (1 : Int32)), .val (.int ((1 : Int32) + (p1 &&& (3 : Int32)))), .val (.int (1 : Int32)), .val (.int (0 : Int32)), .val (.int n), .val (.int dr), .val (.ref b1744), .unset] []
        by_cases h1 : n < 1
        · refine g_iload C (pc' := 90) at_88 rfl rfl ?_
          refine g_iconst C (pc' := 91) (v := (1 : Int32)) at_90 (by decide) rfl ?_
          refine g_icY C (pc' := 103) at_91 rfl (says_t (cd := .lt) (h1)) (by decide) rfl ?_
          refine g_iload C (pc' := 105) at_103 rfl rfl ?_
          refine g_iconst C (pc' := 106) (v := (2 : Int32)) at_105 (by decide) rfl ?_
          refine g_icY C (pc' := 122) at_106 rfl (says_t (cd := .lt) (own_12 h1)) (by decide) rfl ?_
          refine g_iload C (pc' := 124) at_122 rfl rfl ?_
          refine g_iconst C (pc' := 125) (v := (1 : Int32)) at_124 (by decide) rfl ?_
          refine g_icY C (pc' := 140) at_125 rfl (says_t (cd := .lt) (h1)) (by decide) rfl ?_
          refine g_aload C (pc' := 142) at_140 rfl rfl rfl ?_
          refine g_iload C (pc' := 144) at_142 rfl rfl ?_
          refine g_virtual C (pc' := 147) (k' := 5) (n' := 12) (argsL := [(.int (1 : Int32))]) (rest := []) (wd hw 26 rfl) (wd hw 27 rfl) (nfSel (wd hw 29 rfl)) (wd hw 29 rfl) (wd hw 28 rfl) (wd hw 6 rfl) (wd hw 30 rfl) (by decide) at_144 pd_3 rfl rfl rfl f1781 (clear_1 l Z a0 hw n0 h1777 f1780 s_EMPTY H b1744 R F S kR kF kS (1 : Int32) ((1 : Int32) + (p1 &&& (3 : Int32))) (0 : Int32) (0 : Int32) (1 : Int32) (0 : Int32) (.ref rg1764) (.ref s_EMPTY) P1776) (Nat.le_of_ble_eq_true rfl) (Nat.le_of_ble_eq_true rfl) (Nat.le_of_ble_eq_true rfl) (Nat.le_of_ble_eq_true rfl) rfl rfl rfl (fun v1786 h1785 q1787 => ?_)
          obtain ⟨rfl, K1783, P1784⟩ := q1787
          have f1788 := f1780.keep K1783 (allS gR (allS gF (allS gS all0)))
          have f1789 := f1781.keep K1783
          have f1790 := f1782.keep K1783 (ninS ne_rg1764.1 (ninS ne_rg1764.2.1 (ninS ne_rg1764.2.2 nin0)))
          show G w _ h1785 5 12 147 #[.val (.int p0), .val (.int p1), .val (.int p2), .val (.long p3), .second, .val (.long p4), .second, .val (.long p5), .second, .val (.int (1 : Int32)), .val (.int ((1 : Int32) + (p1 &&& (3 : Int32)))), .val (.int (1 : Int32)), .val (.int (0 : Int32)), .val (.int n), .val (.int dr), .val (.ref b1744), .unset] []
          refine G.more (k' := 7) (n' := 15) (Nat.le_of_ble_eq_true rfl) (Nat.le_of_ble_eq_true rfl) ?_
          exact JE _ f1788 n dr b1744 R F S kR kF kS rg1764 kG1765 ge_rg1764 ne_rg1764.1 ne_rg1764.2.1 ne_rg1764.2.2 f1790 P1784
        · by_cases h2 : n < 2
          · refine g_iload C (pc' := 90) at_88 rfl rfl ?_
            refine g_iconst C (pc' := 91) (v := (1 : Int32)) at_90 (by decide) rfl ?_
            refine g_icN C (pc' := 94) at_91 rfl (says_f (cd := .lt) (h1)) rfl ?_
            refine g_aload C (pc' := 96) at_94 rfl rfl rfl ?_
            refine g_iload C (pc' := 98) at_96 rfl rfl ?_
            refine g_lload C (pc' := 100) at_98 rfl rfl ?_
            refine g_virtual C (pc' := 103) (k' := 6) (n' := 13) (argsL := [(.int (1 : Int32)), (.long p4)]) (rest := []) (wd hw 34 rfl) (wd hw 35 rfl) (nfSel (wd hw 37 rfl)) (wd hw 37 rfl) (wd hw 36 rfl) (wd hw 6 rfl) (wd hw 38 rfl) (by decide) at_100 pd_4 rfl rfl rfl f1781 (add0_1_1 l Z a0 hw n0 h1777 f1780 s_EMPTY H b1744 R F S kR kF kS ((1 : Int32) + (p1 &&& (3 : Int32))) (0 : Int32) (1 : Int32) (.ref rg1764) p4 (own_m1 (own_M p1).1) P1776) (Nat.le_of_ble_eq_true rfl) (Nat.le_of_ble_eq_true rfl) (Nat.le_of_ble_eq_true rfl) (Nat.le_of_ble_eq_true rfl) rfl rfl rfl (fun v1798 h1797 q1799 => ?_)
            obtain ⟨rfl, rg1791, kG1792, hg1793, K1794, Ag1795, P1796⟩ := q1799
            have ne_b1744_rg1791 : b1744 ≠ rg1791 := Nat.ne_of_lt (Nat.lt_of_lt_of_le f1781.lt hg1793)
            have ne_rg1764_rg1791 : rg1764 ≠ rg1791 := Nat.ne_of_lt (Nat.lt_of_lt_of_le f1782.lt hg1793)
            have ge_rg1791 : n0 ≤ rg1791 := Nat.le_trans (f1780.1 ▸ f1780.2.1) hg1793
            have ne_rg1791 := own_rc_ne P1776 hg1793
            have f1800 := f1780.keep K1794 (allS gR (allS gF (allS gS all0)))
            have f1801 := f1781.keep K1794
            have f1802 := f1782.keep K1794 (ninS ne_rg1764.1 (ninS ne_rg1764.2.1 (ninS ne_rg1764.2.2 nin0)))
            show G w _ h1797 6 13 103 #[.val (.int p0), .val (.int p1), .val (.int p2), .val (.long p3), .second, .val (.long p4), .second, .val (.long p5), .second, .val (.int (1 : Int32)), .val (.int ((1 : Int32) + (p1 &&& (3 : Int32)))), .val (.int (1 : Int32)), .val (.int (0 : Int32)), .val (.int n), .val (.int dr), .val (.ref b1744), .unset] []
            refine g_iload C (pc' := 105) at_103 rfl rfl ?_
            refine g_iconst C (pc' := 106) (v := (2 : Int32)) at_105 (by decide) rfl ?_
            refine g_icY C (pc' := 122) at_106 rfl (says_t (cd := .lt) (h2)) (by decide) rfl ?_
            refine g_iload C (pc' := 124) at_122 rfl rfl ?_
            refine g_iconst C (pc' := 125) (v := (1 : Int32)) at_124 (by decide) rfl ?_
            refine g_icN C (pc' := 128) at_125 rfl (says_f (cd := .lt) (h1)) rfl ?_
            rcases hd with rfl | rfl
            · refine g_iload C (pc' := 130) at_128 rfl rfl ?_
              refine g_ifY C (pc' := 140) at_130 rfl (by decide) (by decide) rfl ?_
              refine g_aload C (pc' := 142) at_140 rfl rfl rfl ?_
              refine g_iload C (pc' := 144) at_142 rfl rfl ?_
              refine g_virtual C (pc' := 147) (k' := 6) (n' := 13) (argsL := [(.int (1 : Int32))]) (rest := []) (wd hw 26 rfl) (wd hw 27 rfl) (nfSel (wd hw 29 rfl)) (wd hw 29 rfl) (wd hw 28 rfl) (wd hw 6 rfl) (wd hw 30 rfl) (by decide) at_144 pd_3 rfl rfl rfl f1801 (clear_1 l Z a0 hw n0 h1797 f1800 s_EMPTY H b1744 R F S kR kF kS (1 : Int32) ((1 : Int32) + (p1 &&& (3 : Int32))) (0 : Int32) (0 : Int32) (1 : Int32) (1 : Int32) (.ref rg1764) (.ref rg1791) P1796) (Nat.le_of_ble_eq_true rfl) (Nat.le_of_ble_eq_true rfl) (Nat.le_of_ble_eq_true rfl) (Nat.le_of_ble_eq_true rfl) rfl rfl rfl (fun v1806 h1805 q1807 => ?_)
              obtain ⟨rfl, K1803, P1804⟩ := q1807
              have f1808 := f1800.keep K1803 (allS gR (allS gF (allS gS all0)))
              have f1809 := f1801.keep K1803
              have f1810 := f1802.keep K1803 (ninS ne_rg1764.1 (ninS ne_rg1764.2.1 (ninS ne_rg1764.2.2 nin0)))
              have f1811 := Ag1795.keep K1803 (ninS ne_rg1791.1 (ninS ne_rg1791.2.1 (ninS ne_rg1791.2.2 nin0)))
              show G w _ h1805 6 13 147 #[.val (.int p0), .val (.int p1), .val (.int p2), .val (.long p3), .second, .val (.long p4), .second, .val (.long p5), .second, .val (.int (1 : Int32)), .val (.int ((1 : Int32) + (p1 &&& (3 : Int32)))), .val (.int (1 : Int32)), .val (.int (0 : Int32)), .val (.int n), .val (.int (0 : Int32)), .val (.ref b1744), .unset] []
              refine G.more (k' := 7) (n' := 15) (Nat.le_of_ble_eq_true rfl) (Nat.le_of_ble_eq_true rfl) ?_
              exact JE _ f1808 n (0 : Int32) b1744 R F S kR kF kS rg1764 kG1765 ge_rg1764 ne_rg1764.1 ne_rg1764.2.1 ne_rg1764.2.2 f1810 P1804
            · refine g_iload C (pc' := 130) at_128 rfl rfl ?_
              refine g_ifN C (pc' := 133) at_130 rfl (by decide) rfl ?_
              refine g_aload C (pc' := 135) at_133 rfl rfl rfl ?_
              refine g_iload C (pc' := 137) at_135 rfl rfl ?_
              refine g_virtual C (pc' := 140) (k' := 6) (n' := 13) (argsL := [(.int (1 : Int32))]) (rest := []) (wd hw 73 rfl) (wd hw 74 rfl) (nfSel (wd hw 76 rfl)) (wd hw 76 rfl) (wd hw 75 rfl) (wd hw 6 rfl) (wd hw 77 rfl) (by decide) at_137 pd_3 rfl rfl rfl f1801 (rem1_1_1 l Z a0 hw n0 h1797 f1800 s_EMPTY H b1744 R F S kR kF kS ((1 : Int32) + (p1 &&& (3 : Int32))) (0 : Int32) (1 : Int32) (.ref rg1764) rg1791 kG1792 p4 Ag1795 ne_rg1791.1 ne_rg1791.2.1 ne_rg1791.2.2 P1796) (Nat.le_of_ble_eq_true rfl) (Nat.le_of_ble_eq_true rfl) (Nat.le_of_ble_eq_true rfl) (Nat.le_of_ble_eq_true rfl) rfl rfl rfl (fun v1815 h1814 q1816 => ?_)
              obtain ⟨rfl, K1812, P1813⟩ := q1816
              have f1817 := f1800.keep K1812 (allS gR (allS gF (allS gS all0)))
              have f1818 := f1801.keep K1812
              have f1819 := f1802.keep K1812 (ninS ne_rg1764.1 (ninS ne_rg1764.2.1 (ninS ne_rg1764.2.2 nin0)))
              have f1820 := Ag1795.keep K1812 (ninS ne_rg1791.1 (ninS ne_rg1791.2.1 (ninS ne_rg1791.2.2 nin0)))
              show G w _ h1814 6 13 140 #[.val (.int p0), .val (.int p1), .val (.int p2), .val (.long p3), .second, .val (.long p4), .second, .val (.long p5), .second, .val (.int (1 : Int32)), .val (.int ((1 : Int32) + (p1 &&& (3 : Int32)))), .val (.int (1 : Int32)), .val (.int (0 : Int32)), .val (.int n), .val (.int (1 : Int32)), .val (.ref b1744), .unset] []
              refine g_aload C (pc' := 142) at_140 rfl rfl rfl ?_
              refine g_iload C (pc' := 144) at_142 rfl rfl ?_
              refine g_virtual C (pc' := 147) (k' := 6) (n' := 13) (argsL := [(.int (1 : Int32))]) (rest := []) (wd hw 26 rfl) (wd hw 27 rfl) (nfSel (wd hw 29 rfl)) (wd hw 29 rfl) (wd hw 28 rfl) (wd hw 6 rfl) (wd hw 30 rfl) (by decide) at_144 pd_3 rfl rfl rfl f1818 (clear_1 l Z a0 hw n0 h1814 f1817 s_EMPTY H b1744 R F S kR kF kS (1 : Int32) ((1 : Int32) + (p1 &&& (3 : Int32))) (0 : Int32) (0 : Int32) (1 : Int32) (0 : Int32) (.ref rg1764) (.ref rg1791) P1813) (Nat.le_of_ble_eq_true rfl) (Nat.le_of_ble_eq_true rfl) (Nat.le_of_ble_eq_true rfl) (Nat.le_of_ble_eq_true rfl) rfl rfl rfl (fun v1824 h1823 q1825 => ?_)
              obtain ⟨rfl, K1821, P1822⟩ := q1825
              have f1826 := f1817.keep K1821 (allS gR (allS gF (allS gS all0)))
              have f1827 := f1818.keep K1821
              have f1828 := f1819.keep K1821 (ninS ne_rg1764.1 (ninS ne_rg1764.2.1 (ninS ne_rg1764.2.2 nin0)))
              have f1829 := f1820.keep K1821 (ninS ne_rg1791.1 (ninS ne_rg1791.2.1 (ninS ne_rg1791.2.2 nin0)))
              show G w _ h1823 6 13 147 #[.val (.int p0), .val (.int p1), .val (.int p2), .val (.long p3), .second, .val (.long p4), .second, .val (.long p5), .second, .val (.int (1 : Int32)), .val (.int ((1 : Int32) + (p1 &&& (3 : Int32)))), .val (.int (1 : Int32)), .val (.int (0 : Int32)), .val (.int n), .val (.int (1 : Int32)), .val (.ref b1744), .unset] []
              refine G.more (k' := 7) (n' := 15) (Nat.le_of_ble_eq_true rfl) (Nat.le_of_ble_eq_true rfl) ?_
              exact JE _ f1826 n (1 : Int32) b1744 R F S kR kF kS rg1764 kG1765 ge_rg1764 ne_rg1764.1 ne_rg1764.2.1 ne_rg1764.2.2 f1828 P1822
          · refine g_iload C (pc' := 90) at_88 rfl rfl ?_
            refine g_iconst C (pc' := 91) (v := (1 : Int32)) at_90 (by decide) rfl ?_
            refine g_icN C (pc' := 94) at_91 rfl (says_f (cd := .lt) (h1)) rfl ?_
            refine g_aload C (pc' := 96) at_94 rfl rfl rfl ?_
            refine g_iload C (pc' := 98) at_96 rfl rfl ?_
            refine g_lload C (pc' := 100) at_98 rfl rfl ?_
            refine g_virtual C (pc' := 103) (k' := 6) (n' := 13) (argsL := [(.int (1 : Int32)), (.long p4)]) (rest := []) (wd hw 34 rfl) (wd hw 35 rfl) (nfSel (wd hw 37 rfl)) (wd hw 37 rfl) (wd hw 36 rfl) (wd hw 6 rfl) (wd hw 38 rfl) (by decide) at_100 pd_4 rfl rfl rfl f1781 (add0_1_1 l Z a0 hw n0 h1777 f1780 s_EMPTY H b1744 R F S kR kF kS ((1 : Int32) + (p1 &&& (3 : Int32))) (0 : Int32) (1 : Int32) (.ref rg1764) p4 (own_m1 (own_M p1).1) P1776) (Nat.le_of_ble_eq_true rfl) (Nat.le_of_ble_eq_true rfl) (Nat.le_of_ble_eq_true rfl) (Nat.le_of_ble_eq_true rfl) rfl rfl rfl (fun v1837 h1836 q1838 => ?_)
            obtain ⟨rfl, rg1830, kG1831, hg1832, K1833, Ag1834, P1835⟩ := q1838
            have ne_b1744_rg1830 : b1744 ≠ rg1830 := Nat.ne_of_lt (Nat.lt_of_lt_of_le f1781.lt hg1832)
            have ne_rg1764_rg1830 : rg1764 ≠ rg1830 := Nat.ne_of_lt (Nat.lt_of_lt_of_le f1782.lt hg1832)
            have ge_rg1830 : n0 ≤ rg1830 := Nat.le_trans (f1780.1 ▸ f1780.2.1) hg1832
            have ne_rg1830 := own_rc_ne P1776 hg1832
            have f1839 := f1780.keep K1833 (allS gR (allS gF (allS gS all0)))
            have f1840 := f1781.keep K1833
            have f1841 := f1782.keep K1833 (ninS ne_rg1764.1 (ninS ne_rg1764.2.1 (ninS ne_rg1764.2.2 nin0)))
            show G w _ h1836 6 13 103 #[.val (.int p0), .val (.int p1), .val (.int p2), .val (.long p3), .second, .val (.long p4), .second, .val (.long p5), .second, .val (.int (1 : Int32)), .val (.int ((1 : Int32) + (p1 &&& (3 : Int32)))), .val (.int (1 : Int32)), .val (.int (0 : Int32)), .val (.int n), .val (.int dr), .val (.ref b1744), .unset] []
            refine g_iload C (pc' := 105) at_103 rfl rfl ?_
            refine g_iconst C (pc' := 106) (v := (2 : Int32)) at_105 (by decide) rfl ?_
            refine g_icN C (pc' := 109) at_106 rfl (says_f (cd := .lt) (h2)) rfl ?_
            refine g_aload C (pc' := 111) at_109 rfl rfl rfl ?_
            refine g_iload C (pc' := 113) at_111 rfl rfl ?_
            refine g_lload C (pc' := 115) at_113 rfl rfl ?_
            refine g_ldc2Long C (pc' := 118) (wd hw 72 rfl) at_115 rfl ?_
            refine g_lxor C (pc' := 119) at_118 rfl rfl ?_
            refine g_virtual C (pc' := 122) (k' := 7) (n' := 15) (argsL := [(.int (1 : Int32)), (.long (p4 ^^^ (-1 : Int64)))]) (rest := []) (wd hw 34 rfl) (wd hw 35 rfl) (nfSel (wd hw 37 rfl)) (wd hw 37 rfl) (wd hw 36 rfl) (wd hw 6 rfl) (wd hw 38 rfl) (by decide) at_119 pd_4 rfl rfl rfl f1840 (add1_1_1 l Z a0 hw n0 h1836 f1839 s_EMPTY H b1744 R F S kR kF kS ((1 : Int32) + (p1 &&& (3 : Int32))) (0 : Int32) (1 : Int32) (.ref rg1764) (p4 ^^^ (-1 : Int64)) rg1830 ge_rg1830 kG1831 p4 Ag1834 ne_rg1830.1 ne_rg1830.2.1 ne_rg1830.2.2 (own_m2 hn h2) P1835) (Nat.le_of_ble_eq_true rfl) (Nat.le_of_ble_eq_true rfl) (Nat.le_of_ble_eq_true rfl) (Nat.le_of_ble_eq_true rfl) rfl rfl rfl (fun v1849 h1848 q1850 => ?_)
            obtain ⟨rfl, rg1842, kG1843, hg1844, K1845, Ag1846, P1847⟩ := q1850
            have ne_b1744_rg1842 : b1744 ≠ rg1842 := Nat.ne_of_lt (Nat.lt_of_lt_of_le f1840.lt hg1844)
            have ne_rg1764_rg1842 : rg1764 ≠ rg1842 := Nat.ne_of_lt (Nat.lt_of_lt_of_le f1841.lt hg1844)
            have ne_rg1830_rg1842 : rg1830 ≠ rg1842 := Nat.ne_of_lt (Nat.lt_of_lt_of_le Ag1834.lt hg1844)
            have ge_rg1842 : n0 ≤ rg1842 := Nat.le_trans (f1839.1 ▸ f1839.2.1) hg1844
            have ne_rg1842 := own_rc_ne P1835 hg1844
            have f1851 := f1839.keep K1845 (allS gR (allS gF (allS gS all0)))
            have f1852 := f1840.keep K1845
            have f1853 := f1841.keep K1845 (ninS ne_rg1764.1 (ninS ne_rg1764.2.1 (ninS ne_rg1764.2.2 nin0)))
            have f1854 := Ag1834.keep K1845 (ninS ne_rg1830.1 (ninS ne_rg1830.2.1 (ninS ne_rg1830.2.2 nin0)))
            show G w _ h1848 7 15 122 #[.val (.int p0), .val (.int p1), .val (.int p2), .val (.long p3), .second, .val (.long p4), .second, .val (.long p5), .second, .val (.int (1 : Int32)), .val (.int ((1 : Int32) + (p1 &&& (3 : Int32)))), .val (.int (1 : Int32)), .val (.int (0 : Int32)), .val (.int n), .val (.int dr), .val (.ref b1744), .unset] []
            refine g_iload C (pc' := 124) at_122 rfl rfl ?_
            refine g_iconst C (pc' := 125) (v := (1 : Int32)) at_124 (by decide) rfl ?_
            refine g_icN C (pc' := 128) at_125 rfl (says_f (cd := .lt) (h1)) rfl ?_
            rcases hd with rfl | rfl
            · refine g_iload C (pc' := 130) at_128 rfl rfl ?_
              refine g_ifY C (pc' := 140) at_130 rfl (by decide) (by decide) rfl ?_
              refine g_aload C (pc' := 142) at_140 rfl rfl rfl ?_
              refine g_iload C (pc' := 144) at_142 rfl rfl ?_
              refine g_virtual C (pc' := 147) (k' := 7) (n' := 15) (argsL := [(.int (1 : Int32))]) (rest := []) (wd hw 26 rfl) (wd hw 27 rfl) (nfSel (wd hw 29 rfl)) (wd hw 29 rfl) (wd hw 28 rfl) (wd hw 6 rfl) (wd hw 30 rfl) (by decide) at_144 pd_3 rfl rfl rfl f1852 (clear_1 l Z a0 hw n0 h1848 f1851 s_EMPTY H b1744 R F S kR kF kS (1 : Int32) ((1 : Int32) + (p1 &&& (3 : Int32))) (0 : Int32) (0 : Int32) (1 : Int32) (2 : Int32) (.ref rg1764) (.ref rg1842) P1847) (Nat.le_of_ble_eq_true rfl) (Nat.le_of_ble_eq_true rfl) (Nat.le_of_ble_eq_true rfl) (Nat.le_of_ble_eq_true rfl) rfl rfl rfl (fun v1858 h1857 q1859 => ?_)
              obtain ⟨rfl, K1855, P1856⟩ := q1859
              have f1860 := f1851.keep K1855 (allS gR (allS gF (allS gS all0)))
              have f1861 := f1852.keep K1855
              have f1862 := f1853.keep K1855 (ninS ne_rg1764.1 (ninS ne_rg1764.2.1 (ninS ne_rg1764.2.2 nin0)))
              have f1863 := f1854.keep K1855 (ninS ne_rg1830.1 (ninS ne_rg1830.2.1 (ninS ne_rg1830.2.2 nin0)))
              have f1864 := Ag1846.keep K1855 (ninS ne_rg1842.1 (ninS ne_rg1842.2.1 (ninS ne_rg1842.2.2 nin0)))
              show G w _ h1857 7 15 147 #[.val (.int p0), .val (.int p1), .val (.int p2), .val (.long p3), .second, .val (.long p4), .second, .val (.long p5), .second, .val (.int (1 : Int32)), .val (.int ((1 : Int32) + (p1 &&& (3 : Int32)))), .val (.int (1 : Int32)), .val (.int (0 : Int32)), .val (.int n), .val (.int (0 : Int32)), .val (.ref b1744), .unset] []
              refine G.more (k' := 7) (n' := 15) (Nat.le_of_ble_eq_true rfl) (Nat.le_of_ble_eq_true rfl) ?_
              exact JE _ f1860 n (0 : Int32) b1744 R F S kR kF kS rg1764 kG1765 ge_rg1764 ne_rg1764.1 ne_rg1764.2.1 ne_rg1764.2.2 f1862 P1856
            · refine g_iload C (pc' := 130) at_128 rfl rfl ?_
              refine g_ifN C (pc' := 133) at_130 rfl (by decide) rfl ?_
              refine g_aload C (pc' := 135) at_133 rfl rfl rfl ?_
              refine g_iload C (pc' := 137) at_135 rfl rfl ?_
              refine g_virtual C (pc' := 140) (k' := 7) (n' := 15) (argsL := [(.int (1 : Int32))]) (rest := []) (wd hw 73 rfl) (wd hw 74 rfl) (nfSel (wd hw 76 rfl)) (wd hw 76 rfl) (wd hw 75 rfl) (wd hw 6 rfl) (wd hw 77 rfl) (by decide) at_137 pd_3 rfl rfl rfl f1852 (rem2_1_1 l Z a0 hw n0 h1848 f1851 s_EMPTY H b1744 R F S kR kF kS ((1 : Int32) + (p1 &&& (3 : Int32))) (0 : Int32) (1 : Int32) (.ref rg1764) rg1842 kG1843 p4 (p4 ^^^ (-1 : Int64)) Ag1846 ne_rg1842.1 ne_rg1842.2.1 ne_rg1842.2.2 P1847) (Nat.le_of_ble_eq_true rfl) (Nat.le_of_ble_eq_true rfl) (Nat.le_of_ble_eq_true rfl) (Nat.le_of_ble_eq_true rfl) rfl rfl rfl (fun v1868 h1867 q1869 => ?_)
              obtain ⟨rfl, K1865, P1866⟩ := q1869
              have f1870 := f1851.keep K1865 (allS gR (allS gF (allS gS all0)))
              have f1871 := f1852.keep K1865
              have f1872 := f1853.keep K1865 (ninS ne_rg1764.1 (ninS ne_rg1764.2.1 (ninS ne_rg1764.2.2 nin0)))
              have f1873 := f1854.keep K1865 (ninS ne_rg1830.1 (ninS ne_rg1830.2.1 (ninS ne_rg1830.2.2 nin0)))
              have f1874 := Ag1846.keep K1865 (ninS ne_rg1842.1 (ninS ne_rg1842.2.1 (ninS ne_rg1842.2.2 nin0)))
              show G w _ h1867 7 15 140 #[.val (.int p0), .val (.int p1), .val (.int p2), .val (.long p3), .second, .val (.long p4), .second, .val (.long p5), .second, .val (.int (1 : Int32)), .val (.int ((1 : Int32) + (p1 &&& (3 : Int32)))), .val (.int (1 : Int32)), .val (.int (0 : Int32)), .val (.int n), .val (.int (1 : Int32)), .val (.ref b1744), .unset] []
              refine g_aload C (pc' := 142) at_140 rfl rfl rfl ?_
              refine g_iload C (pc' := 144) at_142 rfl rfl ?_
              refine g_virtual C (pc' := 147) (k' := 7) (n' := 15) (argsL := [(.int (1 : Int32))]) (rest := []) (wd hw 26 rfl) (wd hw 27 rfl) (nfSel (wd hw 29 rfl)) (wd hw 29 rfl) (wd hw 28 rfl) (wd hw 6 rfl) (wd hw 30 rfl) (by decide) at_144 pd_3 rfl rfl rfl f1871 (clear_1 l Z a0 hw n0 h1867 f1870 s_EMPTY H b1744 R F S kR kF kS (1 : Int32) ((1 : Int32) + (p1 &&& (3 : Int32))) (0 : Int32) (1 : Int32) (1 : Int32) (1 : Int32) (.ref rg1764) (.ref rg1842) P1866) (Nat.le_of_ble_eq_true rfl) (Nat.le_of_ble_eq_true rfl) (Nat.le_of_ble_eq_true rfl) (Nat.le_of_ble_eq_true rfl) rfl rfl rfl (fun v1878 h1877 q1879 => ?_)
              obtain ⟨rfl, K1875, P1876⟩ := q1879
              have f1880 := f1870.keep K1875 (allS gR (allS gF (allS gS all0)))
              have f1881 := f1871.keep K1875
              have f1882 := f1872.keep K1875 (ninS ne_rg1764.1 (ninS ne_rg1764.2.1 (ninS ne_rg1764.2.2 nin0)))
              have f1883 := f1873.keep K1875 (ninS ne_rg1830.1 (ninS ne_rg1830.2.1 (ninS ne_rg1830.2.2 nin0)))
              have f1884 := f1874.keep K1875 (ninS ne_rg1842.1 (ninS ne_rg1842.2.1 (ninS ne_rg1842.2.2 nin0)))
              show G w _ h1877 7 15 147 #[.val (.int p0), .val (.int p1), .val (.int p2), .val (.long p3), .second, .val (.long p4), .second, .val (.long p5), .second, .val (.int (1 : Int32)), .val (.int ((1 : Int32) + (p1 &&& (3 : Int32)))), .val (.int (1 : Int32)), .val (.int (0 : Int32)), .val (.int n), .val (.int (1 : Int32)), .val (.ref b1744), .unset] []
              refine G.more (k' := 7) (n' := 15) (Nat.le_of_ble_eq_true rfl) (Nat.le_of_ble_eq_true rfl) ?_
              exact JE _ f1880 n (1 : Int32) b1744 R F S kR kF kS rg1764 kG1765 ge_rg1764 ne_rg1764.1 ne_rg1764.2.1 ne_rg1764.2.2 f1882 P1876
      have J35 : ∀ (n : Int32) (hn : ¬ ((1 : Int32) + (p1 &&& (3 : Int32))) < n), G w LQ h 0 0 35 #[.val (.int p0), .val (.int p1), .val (.int p2), .val (.long p3), .second, .val (.long p4), .second, .val (.long p5), .second, .val (.int (1 : Int32)), .val (.int ((1 : Int32) + (p1 &&& (3 : Int32)))), .val (.int (1 : Int32)), .val (.int (0 : Int32)), .unset, .unset, .unset, .unset] [(.int n)] := by
        intro n hn
        refine g_istore C (pc' := 37) (Ls' := #[.val (.int p0), .val (.int p1), .val (.int p2), .val (.long p3), .second, .val (.long p4), .second, .val (.long p5), .second, .val (.int (1 : Int32)), .val (.int ((1 : Int32) + (p1 &&& (3 : Int32)))), .val (.int (1 : Int32)), .val (.int (0 : Int32)), .val (.int n), .unset, .unset, .unset]) at_35 rfl rfl rfl ?_
        refine g_iloadN C (pc' := 38) at_37 rfl rfl ?_
        refine g_iconst C (pc' := 39) (v := (3 : Int32)) at_38 (by decide) rfl ?_
        refine g_iushr C (pc' := 40) at_39 rfl rfl ?_
        refine g_iconst C (pc' := 41) (v := (1 : Int32)) at_40 (by decide) rfl ?_
        refine g_iand C (pc' := 42) at_41 rfl rfl ?_
        refine g_ifB C (pcT := 49) (pc' := 45) at_42 rfl (by decide) rfl rfl (fun hc1885 => ?_) (fun hc1885 => ?_)
        · replace hc1885 : (((p2.toUInt32 >>> ((3 : Int32) &&& 31).toUInt32).toInt32) &&& (1 : Int32)) = (0 : Int32) := hc1885
          refine g_iconst C (pc' := 50) (v := (0 : Int32)) at_49 (by decide) rfl ?_
          refine g_istore C (pc' := 52) (Ls' := #[.val (.int p0), .val (.int p1), .val (.int p2), .val (.long p3), .second, .val (.long p4), .second, .val (.long p5), .second, .val (.int (1 : Int32)), .val (.int ((1 : Int32) + (p1 &&& (3 : Int32)))), .val (.int (1 : Int32)), .val (.int (0 : Int32)), .val (.int n), .val (.int (0 : Int32)), .unset, .unset]) at_50 rfl rfl rfl ?_
          exact J52 _ _ hn (Or.inl rfl)
        · replace hc1885 : ¬ (((p2.toUInt32 >>> ((3 : Int32) &&& 31).toUInt32).toInt32) &&& (1 : Int32)) = (0 : Int32) := hc1885
          refine g_iconst C (pc' := 46) (v := (1 : Int32)) at_45 (by decide) rfl ?_
          refine g_goto C (pc' := 50) at_46 (by decide) rfl ?_
          refine g_istore C (pc' := 52) (Ls' := #[.val (.int p0), .val (.int p1), .val (.int p2), .val (.long p3), .second, .val (.long p4), .second, .val (.long p5), .second, .val (.int (1 : Int32)), .val (.int ((1 : Int32) + (p1 &&& (3 : Int32)))), .val (.int (1 : Int32)), .val (.int (0 : Int32)), .val (.int n), .val (.int (1 : Int32)), .unset, .unset]) at_50 rfl rfl rfl ?_
          exact J52 _ _ hn (Or.inr rfl)
      by_cases hq : ((1 : Int32) + (p1 &&& (3 : Int32))) < (((p2.toUInt32 >>> ((1 : Int32) &&& 31).toUInt32).toInt32) &&& (3 : Int32))
      · refine g_callS C (pc' := 35) (k' := 0) (n' := 0) (argsL := [(.int (((p2.toUInt32 >>> ((1 : Int32) &&& 31).toUInt32).toInt32) &&& (3 : Int32))), (.int ((1 : Int32) + (p1 &&& (3 : Int32))))]) (rest := []) (wd hw 0 rfl) (wd hw 1 rfl) (wd hw 2 rfl) (wd hw 3 rfl) (by decide) at_32 pd_0 rfl rfl rfl (minI_gt l Z a0 hw n0 h O s_EMPTY H (((p2.toUInt32 >>> ((1 : Int32) &&& 31).toUInt32).toInt32) &&& (3 : Int32)) ((1 : Int32) + (p1 &&& (3 : Int32))) hq) (Nat.le_of_ble_eq_true rfl) (Nat.le_of_ble_eq_true rfl) (Nat.le_of_ble_eq_true rfl) (Nat.le_of_ble_eq_true rfl) rfl rfl rfl (fun v1887 h1886 q1888 => ?_)
        obtain ⟨rfl, eh1886⟩ := q1888
        subst h1886
        show G w _ h 0 0 35 #[.val (.int p0), .val (.int p1), .val (.int p2), .val (.long p3), .second, .val (.long p4), .second, .val (.long p5), .second, .val (.int (1 : Int32)), .val (.int ((1 : Int32) + (p1 &&& (3 : Int32)))), .val (.int (1 : Int32)), .val (.int (0 : Int32)), .unset, .unset, .unset, .unset] [(.int ((1 : Int32) + (p1 &&& (3 : Int32))))]
        exact J35 _ own_irr
      · refine g_callS C (pc' := 35) (k' := 0) (n' := 0) (argsL := [(.int (((p2.toUInt32 >>> ((1 : Int32) &&& 31).toUInt32).toInt32) &&& (3 : Int32))), (.int ((1 : Int32) + (p1 &&& (3 : Int32))))]) (rest := []) (wd hw 0 rfl) (wd hw 1 rfl) (wd hw 2 rfl) (wd hw 3 rfl) (by decide) at_32 pd_0 rfl rfl rfl (minI_lt l Z a0 hw n0 h O s_EMPTY H (((p2.toUInt32 >>> ((1 : Int32) &&& 31).toUInt32).toInt32) &&& (3 : Int32)) ((1 : Int32) + (p1 &&& (3 : Int32))) hq) (Nat.le_of_ble_eq_true rfl) (Nat.le_of_ble_eq_true rfl) (Nat.le_of_ble_eq_true rfl) (Nat.le_of_ble_eq_true rfl) rfl rfl rfl (fun v1890 h1889 q1891 => ?_)
        obtain ⟨rfl, eh1889⟩ := q1891
        subst h1889
        show G w _ h 0 0 35 #[.val (.int p0), .val (.int p1), .val (.int p2), .val (.long p3), .second, .val (.long p4), .second, .val (.long p5), .second, .val (.int (1 : Int32)), .val (.int ((1 : Int32) + (p1 &&& (3 : Int32)))), .val (.int (1 : Int32)), .val (.int (0 : Int32)), .unset, .unset, .unset, .unset] [(.int (((p2.toUInt32 >>> ((1 : Int32) &&& 31).toUInt32).toInt32) &&& (3 : Int32)))]
        exact J35 _ hq
  · rw [e1]
    refine g_iadd C (pc' := 5) at_4 rfl rfl ?_
    rw [show ((1 : Int32) + (1 : Int32)) = (2 : Int32) from by decide]
    refine g_istore C (pc' := 7) (Ls' := #[.val (.int p0), .val (.int p1), .val (.int p2), .val (.long p3), .second, .val (.long p4), .second, .val (.long p5), .second, .val (.int (2 : Int32)), .unset, .unset, .unset, .unset, .unset, .unset, .unset]) at_5 rfl rfl rfl ?_
    refine g_iconst C (pc' := 8) (v := (1 : Int32)) at_7 (by decide) rfl ?_
    refine g_iloadN C (pc' := 9) at_8 rfl rfl ?_
    refine g_iconst C (pc' := 10) (v := (3 : Int32)) at_9 (by decide) rfl ?_
    refine g_iand C (pc' := 11) at_10 rfl rfl ?_
    refine g_iadd C (pc' := 12) at_11 rfl rfl ?_
    refine g_istore C (pc' := 14) (Ls' := #[.val (.int p0), .val (.int p1), .val (.int p2), .val (.long p3), .second, .val (.long p4), .second, .val (.long p5), .second, .val (.int (2 : Int32)), .val (.int ((1 : Int32) + (p1 &&& (3 : Int32)))), .unset, .unset, .unset, .unset, .unset, .unset]) at_12 rfl rfl rfl ?_
    refine g_iloadN C (pc' := 15) at_14 rfl rfl ?_
    refine g_iconst C (pc' := 16) (v := (1 : Int32)) at_15 (by decide) rfl ?_
    refine g_iand C (pc' := 17) at_16 rfl rfl ?_
    rcases own_and1 p2 with e2 | e2
    · rw [e2]
      refine g_istore C (pc' := 19) (Ls' := #[.val (.int p0), .val (.int p1), .val (.int p2), .val (.long p3), .second, .val (.long p4), .second, .val (.long p5), .second, .val (.int (2 : Int32)), .val (.int ((1 : Int32) + (p1 &&& (3 : Int32)))), .val (.int (0 : Int32)), .unset, .unset, .unset, .unset, .unset]) at_17 rfl rfl rfl ?_
      refine g_iconst C (pc' := 20) (v := (1 : Int32)) at_19 (by decide) rfl ?_
      refine g_iload C (pc' := 22) at_20 rfl rfl ?_
      refine g_isub C (pc' := 23) at_22 rfl rfl ?_
      rw [show ((1 : Int32) - (0 : Int32)) = (1 : Int32) from by decide]
      refine g_istore C (pc' := 25) (Ls' := #[.val (.int p0), .val (.int p1), .val (.int p2), .val (.long p3), .second, .val (.long p4), .second, .val (.long p5), .second, .val (.int (2 : Int32)), .val (.int ((1 : Int32) + (p1 &&& (3 : Int32)))), .val (.int (0 : Int32)), .val (.int (1 : Int32)), .unset, .unset, .unset, .unset]) at_23 rfl rfl rfl ?_
      refine g_iloadN C (pc' := 26) at_25 rfl rfl ?_
      refine g_iconst C (pc' := 27) (v := (1 : Int32)) at_26 (by decide) rfl ?_
      refine g_iushr C (pc' := 28) at_27 rfl rfl ?_
      refine g_iconst C (pc' := 29) (v := (3 : Int32)) at_28 (by decide) rfl ?_
      refine g_iand C (pc' := 30) at_29 rfl rfl ?_
      refine g_iload C (pc' := 32) at_30 rfl rfl ?_
      have JE : ∀ (h' : Heap) (O' : Old Z n0 h') (n dr : Int32) (c R F S : Addr) (kR kF kS : ClassId) (ro : Addr) (kO : ClassId) (go : n0 ≤ ro) (nR : ro ≠ R) (nF : ro ≠ F) (nS : ro ≠ S) (Ao : Arv Z h' ro kO .long (2 : Int32) [(.long p3), (.long (0 : Int64))] (.long (0 : Int64))) (P : RC Z n0 h' c R F S kR kF kS (2 : Int32) ((1 : Int32) + (p1 &&& (3 : Int32))) (.ref s_EMPTY) (.ref ro) (0 : Int32) (0 : Int32) (0 : Int32) (1 : Int32)), G w LQ h' 7 19 147 #[.val (.int p0), .val (.int p1), .val (.int p2), .val (.long p3), .second, .val (.long p4), .second, .val (.long p5), .second, .val (.int (2 : Int32)), .val (.int ((1 : Int32) + (p1 &&& (3 : Int32)))), .val (.int (0 : Int32)), .val (.int (1 : Int32)), .val (.int n), .val (.int dr), .val (.ref c), .unset] [] := by
        intro h' O' n dr c R F S kR kF kS ro kO go nR nF nS Ao P
        obtain ⟨gc, gR, gF, gS, n_c_R, n_c_F, n_c_S, n_R_F, n_R_S, n_F_S, Ov, E0, -⟩ := id P
        refine g_aload C (pc' := 149) at_147 rfl rfl rfl ?_
        refine g_iload C (pc' := 151) at_149 rfl rfl ?_
        refine g_virtual C (pc' := 154) (k' := 7) (n' := 19) (argsL := [(.int (0 : Int32))]) (rest := []) (wd hw 62 rfl) (wd hw 63 rfl) (nfSel (wd hw 65 rfl)) (wd hw 65 rfl) (wd hw 64 rfl) (wd hw 6 rfl) (wd hw 66 rfl) (by decide) at_151 pd_10 rfl rfl rfl E0 (size_0_0 l Z a0 hw n0 h' O' s_EMPTY H c R F S kR kF kS (2 : Int32) ((1 : Int32) + (p1 &&& (3 : Int32))) (0 : Int32) (0 : Int32) (1 : Int32) (.ref s_EMPTY) (.ref ro) P) (Nat.le_of_ble_eq_true rfl) (Nat.le_of_ble_eq_true rfl) (Nat.le_of_ble_eq_true rfl) (Nat.le_of_ble_eq_true rfl) rfl rfl rfl (fun v1893 h1892 q1894 => ?_)
        obtain ⟨rfl, eh1892⟩ := q1894
        subst h1892
        show G w _ h' 7 19 154 #[.val (.int p0), .val (.int p1), .val (.int p2), .val (.long p3), .second, .val (.long p4), .second, .val (.long p5), .second, .val (.int (2 : Int32)), .val (.int ((1 : Int32) + (p1 &&& (3 : Int32)))), .val (.int (0 : Int32)), .val (.int (1 : Int32)), .val (.int n), .val (.int dr), .val (.ref c), .unset] [(.int (0 : Int32))]
        refine g_ifN C (pc' := 157) at_154 rfl (by decide) rfl ?_
        refine g_aload C (pc' := 159) at_157 rfl rfl rfl ?_
        refine g_iload C (pc' := 161) at_159 rfl rfl ?_
        refine g_virtual C (pc' := 164) (k' := 7) (n' := 19) (argsL := [(.int (1 : Int32))]) (rest := []) (wd hw 62 rfl) (wd hw 63 rfl) (nfSel (wd hw 65 rfl)) (wd hw 65 rfl) (wd hw 64 rfl) (wd hw 6 rfl) (wd hw 66 rfl) (by decide) at_161 pd_10 rfl rfl rfl E0 (size_1_1 l Z a0 hw n0 h' O' s_EMPTY H c R F S kR kF kS (2 : Int32) ((1 : Int32) + (p1 &&& (3 : Int32))) (0 : Int32) (0 : Int32) (0 : Int32) (.ref s_EMPTY) (.ref ro) P) (Nat.le_of_ble_eq_true rfl) (Nat.le_of_ble_eq_true rfl) (Nat.le_of_ble_eq_true rfl) (Nat.le_of_ble_eq_true rfl) rfl rfl rfl (fun v1896 h1895 q1897 => ?_)
        obtain ⟨rfl, eh1895⟩ := q1897
        subst h1895
        show G w _ h' 7 19 164 #[.val (.int p0), .val (.int p1), .val (.int p2), .val (.long p3), .second, .val (.long p4), .second, .val (.long p5), .second, .val (.int (2 : Int32)), .val (.int ((1 : Int32) + (p1 &&& (3 : Int32)))), .val (.int (0 : Int32)), .val (.int (1 : Int32)), .val (.int n), .val (.int dr), .val (.ref c), .unset] [(.int (1 : Int32))]
        refine g_iconst C (pc' := 165) (v := (1 : Int32)) at_164 (by decide) rfl ?_
        refine g_icN C (pc' := 168) at_165 rfl (by decide) rfl ?_
        refine g_aload C (pc' := 170) at_168 rfl rfl rfl ?_
        refine g_iload C (pc' := 172) at_170 rfl rfl ?_
        refine g_iconst C (pc' := 173) (v := (0 : Int32)) at_172 (by decide) rfl ?_
        refine g_iconst C (pc' := 174) (v := (0 : Int32)) at_173 (by decide) rfl ?_
        refine g_virtual C (pc' := 177) (k' := 7) (n' := 19) (argsL := [(.int (1 : Int32)), (.int (0 : Int32)), (.int (0 : Int32))]) (rest := []) (wd hw 67 rfl) (wd hw 68 rfl) (nfSel (wd hw 70 rfl)) (wd hw 70 rfl) (wd hw 69 rfl) (wd hw 6 rfl) (wd hw 71 rfl) (by decide) at_174 pd_11 rfl rfl rfl E0 (get_1_2 l Z a0 hw n0 h' O' s_EMPTY H c R F S kR kF kS ((1 : Int32) + (p1 &&& (3 : Int32))) (0 : Int32) (0 : Int32) (1 : Int32) (.ref s_EMPTY) ro kO p3 (0 : Int64) Ao P) (Nat.le_of_ble_eq_true rfl) (Nat.le_of_ble_eq_true rfl) (Nat.le_of_ble_eq_true rfl) (Nat.le_of_ble_eq_true rfl) rfl rfl rfl (fun v1899 h1898 q1900 => ?_)
        obtain ⟨rfl, eh1898⟩ := q1900
        subst h1898
        show G w _ h' 7 19 177 #[.val (.int p0), .val (.int p1), .val (.int p2), .val (.long p3), .second, .val (.long p4), .second, .val (.long p5), .second, .val (.int (2 : Int32)), .val (.int ((1 : Int32) + (p1 &&& (3 : Int32)))), .val (.int (0 : Int32)), .val (.int (1 : Int32)), .val (.int n), .val (.int dr), .val (.ref c), .unset] [(.long p3)]
        refine g_lloadN C (pc' := 178) at_177 rfl rfl ?_
        refine g_lcmp C (pc' := 179) at_178 rfl rfl ?_
        refine g_ifN C (pc' := 182) at_179 rfl (says_f (cd := .ne) (fun q => q ((lw_eq _ _).mpr rfl))) rfl ?_
        refine g_iconst C (pc' := 183) (v := (1 : Int32)) at_182 (by decide) rfl ?_
        refine g_goto C (pc' := 187) at_183 (by decide) rfl ?_
        refine g_istore C (pc' := 189) (Ls' := #[.val (.int p0), .val (.int p1), .val (.int p2), .val (.long p3), .second, .val (.long p4), .second, .val (.long p5), .second, .val (.int (2 : Int32)), .val (.int ((1 : Int32) + (p1 &&& (3 : Int32)))), .val (.int (0 : Int32)), .val (.int (1 : Int32)), .val (.int n), .val (.int dr), .val (.ref c), .val (.int (1 : Int32))]) at_187 rfl rfl rfl ?_
        refine g_iload C (pc' := 191) at_189 rfl rfl ?_
        refine g_ifY C (pc' := 196) at_191 rfl (by decide) (by decide) rfl ?_
        refine g_aload C (pc' := 198) at_196 rfl rfl rfl ?_
        refine g_iload C (pc' := 200) at_198 rfl rfl ?_
        refine g_lload C (pc' := 202) at_200 rfl rfl ?_
        refine g_virtual C (pc' := 205) (k' := 8) (n' := 21) (argsL := [(.int (0 : Int32)), (.long p5)]) (rest := []) (wd hw 34 rfl) (wd hw 35 rfl) (nfSel (wd hw 37 rfl)) (wd hw 37 rfl) (wd hw 36 rfl) (wd hw 6 rfl) (wd hw 38 rfl) (by decide) at_202 pd_4 rfl rfl rfl E0 (add0_0_2 l Z a0 hw n0 h' O' s_EMPTY H c R F S kR kF kS ((1 : Int32) + (p1 &&& (3 : Int32))) (0 : Int32) (1 : Int32) (.ref ro) p5 (own_m1 (own_M p1).1) P) (Nat.le_of_ble_eq_true rfl) (Nat.le_of_ble_eq_true rfl) (Nat.le_of_ble_eq_true rfl) (Nat.le_of_ble_eq_true rfl) rfl rfl rfl (fun v1908 h1907 q1909 => ?_)
        obtain ⟨rfl, rg1901, kG1902, hg1903, K1904, Ag1905, P1906⟩ := q1909
        have ne_c_rg1901 : c ≠ rg1901 := Nat.ne_of_lt (Nat.lt_of_lt_of_le E0.lt hg1903)
        have ne_ro_rg1901 : ro ≠ rg1901 := Nat.ne_of_lt (Nat.lt_of_lt_of_le Ao.lt hg1903)
        have ge_rg1901 : n0 ≤ rg1901 := Nat.le_trans (O'.1 ▸ O'.2.1) hg1903
        have ne_rg1901 := own_rc_ne P hg1903
        have f1910 := O'.keep K1904 (allS gR (allS gF (allS gS all0)))
        have f1911 := E0.keep K1904
        have f1912 := Ao.keep K1904 (ninS nR (ninS nF (ninS nS nin0)))
        show G w _ h1907 8 21 205 #[.val (.int p0), .val (.int p1), .val (.int p2), .val (.long p3), .second, .val (.long p4), .second, .val (.long p5), .second, .val (.int (2 : Int32)), .val (.int ((1 : Int32) + (p1 &&& (3 : Int32)))), .val (.int (0 : Int32)), .val (.int (1 : Int32)), .val (.int n), .val (.int dr), .val (.ref c), .val (.int (1 : Int32))] []
        refine g_aload C (pc' := 207) at_205 rfl rfl rfl ?_
        refine g_iload C (pc' := 209) at_207 rfl rfl ?_
        refine g_iconst C (pc' := 210) (v := (0 : Int32)) at_209 (by decide) rfl ?_
        refine g_iconst C (pc' := 211) (v := (0 : Int32)) at_210 (by decide) rfl ?_
        refine g_virtual C (pc' := 214) (k' := 8) (n' := 21) (argsL := [(.int (0 : Int32)), (.int (0 : Int32)), (.int (0 : Int32))]) (rest := []) (wd hw 67 rfl) (wd hw 68 rfl) (nfSel (wd hw 70 rfl)) (wd hw 70 rfl) (wd hw 69 rfl) (wd hw 6 rfl) (wd hw 71 rfl) (by decide) at_211 pd_11 rfl rfl rfl f1911 (get_0_2 l Z a0 hw n0 h1907 f1910 s_EMPTY H c R F S kR kF kS ((1 : Int32) + (p1 &&& (3 : Int32))) (0 : Int32) (1 : Int32) (1 : Int32) (.ref ro) rg1901 kG1902 p5 (0 : Int64) Ag1905 P1906) (Nat.le_of_ble_eq_true rfl) (Nat.le_of_ble_eq_true rfl) (Nat.le_of_ble_eq_true rfl) (Nat.le_of_ble_eq_true rfl) rfl rfl rfl (fun v1914 h1913 q1915 => ?_)
        obtain ⟨rfl, eh1913⟩ := q1915
        subst h1913
        show G w _ h1907 8 21 214 #[.val (.int p0), .val (.int p1), .val (.int p2), .val (.long p3), .second, .val (.long p4), .second, .val (.long p5), .second, .val (.int (2 : Int32)), .val (.int ((1 : Int32) + (p1 &&& (3 : Int32)))), .val (.int (0 : Int32)), .val (.int (1 : Int32)), .val (.int n), .val (.int dr), .val (.ref c), .val (.int (1 : Int32))] [(.long p5)]
        refine g_lload C (pc' := 216) at_214 rfl rfl ?_
        refine g_lcmp C (pc' := 217) at_216 rfl rfl ?_
        refine g_ifN C (pc' := 220) at_217 rfl (says_f (cd := .ne) (fun q => q ((lw_eq _ _).mpr rfl))) rfl ?_
        refine g_iconst C (pc' := 221) (v := (1 : Int32)) at_220 (by decide) rfl ?_
        refine g_goto C (pc' := 225) at_221 (by decide) rfl ?_
        exact g_zreturn C at_225 rfl rfl (Nat.le_of_ble_eq_true rfl) (Nat.le_of_ble_eq_true rfl) (rfl)
      have J52 : ∀ (n dr : Int32) (hn : ¬ ((1 : Int32) + (p1 &&& (3 : Int32))) < n) (hd : dr = 0 ∨ dr = 1), G w LQ h 0 0 52 #[.val (.int p0), .val (.int p1), .val (.int p2), .val (.long p3), .second, .val (.long p4), .second, .val (.long p5), .second, .val (.int (2 : Int32)), .val (.int ((1 : Int32) + (p1 &&& (3 : Int32)))), .val (.int (0 : Int32)), .val (.int (1 : Int32)), .val (.int n), .val (.int dr), .unset, .unset] [] := by
        intro n dr hn hd
        refine g_new C (pc' := 55) (k' := 1) (n' := 5) (wd hw 4 rfl) (wd hw 5 rfl) (wd hw 6 rfl) at_52 (by decide) (by decide) rfl rfl rfl (fun h1916 b1917 ex1918 E1919 A1920 D1921 => ?_)
        have ge_b1917 : n0 ≤ b1917 := by rw [ex1918]; exact O.1 ▸ O.2.1
        have f1922 := O.ext E1919
        have F__width_b1917 : Fld Z h1916 b1917 "com/example/request_throttle/requestthrottle/RingColumn" "_width" "I" (.int (0 : Int32)) := D1921 (Or.inr (wd hw 14 rfl)) (ty := .int) (by decide)
        have F__most_b1917 : Fld Z h1916 b1917 "com/example/request_throttle/requestthrottle/RingColumn" "_most" "I" (.int (0 : Int32)) := D1921 (Or.inr (wd hw 16 rfl)) (ty := .int) (by decide)
        have F__rings_b1917 : Fld Z h1916 b1917 "com/example/request_throttle/requestthrottle/RingColumn" "_rings" "[[J" .null := D1921 (Or.inr (wd hw 20 rfl)) (ty := (.array (.array .long))) (by decide)
        have F__first_b1917 : Fld Z h1916 b1917 "com/example/request_throttle/requestthrottle/RingColumn" "_first" "[I" .null := D1921 (Or.inr (wd hw 23 rfl)) (ty := (.array .int)) (by decide)
        have F__size_b1917 : Fld Z h1916 b1917 "com/example/request_throttle/requestthrottle/RingColumn" "_size" "[I" .null := D1921 (Or.inr (wd hw 25 rfl)) (ty := (.array .int)) (by decide)
        refine g_dup C (pc' := 56) at_55 rfl rfl rfl ?_
        refine g_iload C (pc' := 58) at_56 rfl rfl ?_
        refine g_iload C (pc' := 60) at_58 rfl rfl ?_
        refine g_iconst C (pc' := 61) (v := (2 : Int32)) at_60 (by decide) rfl ?_
        refine g_special C (pc' := 64) (k' := 4) (n' := 11) (argsL := [(.int (2 : Int32)), (.int ((1 : Int32) + (p1 &&& (3 : Int32)))), (.int (2 : Int32))]) (rest := [(.ref b1917)]) (wd hw 7 rfl) (wd hw 8 rfl) (wd hw 6 rfl) (wd hw 9 rfl) (by decide) rfl at_61 pd_1 rfl rfl rfl (rc_init l Z a0 hw n0 h1916 f1922 s_EMPTY H b1917 ge_b1917 (2 : Int32) ((1 : Int32) + (p1 &&& (3 : Int32))) A1920 F__width_b1917 F__most_b1917 F__rings_b1917 F__first_b1917 F__size_b1917) (Nat.le_of_ble_eq_true rfl) (Nat.le_of_ble_eq_true rfl) (Nat.le_of_ble_eq_true rfl) (Nat.le_of_ble_eq_true rfl) rfl rfl rfl (fun v1926 h1925 q1927 => ?_)
        obtain ⟨rfl, K1923, R, F, S, kR, kF, kS, hR, hF, hS, P1924⟩ := q1927
        have f1928 := f1922.keep K1923 (allS ge_b1917 all0)
        have f1929 := A1920.keep K1923
        obtain ⟨gc, gR, gF, gS, n_c_R, n_c_F, n_c_S, n_R_F, n_R_S, n_F_S, -⟩ := id P1924
        show G w _ h1925 4 11 64 #[.val (.int p0), .val (.int p1), .val (.int p2), .val (.long p3), .second, .val (.long p4), .second, .val (.long p5), .second, .val (.int (2 : Int32)), .val (.int ((1 : Int32) + (p1 &&& (3 : Int32)))), .val (.int (0 : Int32)), .val (.int (1 : Int32)), .val (.int n), .val (.int dr), .unset, .unset] [(.ref b1917)]
        refine g_astore C (pc' := 66) (Ls' := #[.val (.int p0), .val (.int p1), .val (.int p2), .val (.long p3), .second, .val (.long p4), .second, .val (.long p5), .second, .val (.int (2 : Int32)), .val (.int ((1 : Int32) + (p1 &&& (3 : Int32)))), .val (.int (0 : Int32)), .val (.int (1 : Int32)), .val (.int n), .val (.int dr), .val (.ref b1917), .unset]) at_64 rfl rfl rfl rfl ?_
        refine g_aload C (pc' := 68) at_66 rfl rfl rfl ?_
        refine g_iload C (pc' := 70) at_68 rfl rfl ?_
        refine g_virtual C (pc' := 73) (k' := 4) (n' := 11) (argsL := [(.int (1 : Int32))]) (rest := []) (wd hw 26 rfl) (wd hw 27 rfl) (nfSel (wd hw 29 rfl)) (wd hw 29 rfl) (wd hw 28 rfl) (wd hw 6 rfl) (wd hw 30 rfl) (by decide) at_70 pd_3 rfl rfl rfl f1929 (clear_1 l Z a0 hw n0 h1925 f1928 s_EMPTY H b1917 R F S kR kF kS (2 : Int32) ((1 : Int32) + (p1 &&& (3 : Int32))) (0 : Int32) (0 : Int32) (0 : Int32) (0 : Int32) .null .null P1924) (Nat.le_of_ble_eq_true rfl) (Nat.le_of_ble_eq_true rfl) (Nat.le_of_ble_eq_true rfl) (Nat.le_of_ble_eq_true rfl) rfl rfl rfl (fun v1933 h1932 q1934 => ?_)
        obtain ⟨rfl, K1930, P1931⟩ := q1934
        have f1935 := f1928.keep K1930 (allS gR (allS gF (allS gS all0)))
        have f1936 := f1929.keep K1930
        show G w _ h1932 4 11 73 #[.val (.int p0), .val (.int p1), .val (.int p2), .val (.long p3), .second, .val (.long p4), .second, .val (.long p5), .second, .val (.int (2 : Int32)), .val (.int ((1 : Int32) + (p1 &&& (3 : Int32)))), .val (.int (0 : Int32)), .val (.int (1 : Int32)), .val (.int n), .val (.int dr), .val (.ref b1917), .unset] []
        refine g_aload C (pc' := 75) at_73 rfl rfl rfl ?_
        refine g_iload C (pc' := 77) at_75 rfl rfl ?_
        refine g_lloadN C (pc' := 78) at_77 rfl rfl ?_
        refine g_virtual C (pc' := 81) (k' := 5) (n' := 13) (argsL := [(.int (1 : Int32)), (.long p3)]) (rest := []) (wd hw 34 rfl) (wd hw 35 rfl) (nfSel (wd hw 37 rfl)) (wd hw 37 rfl) (wd hw 36 rfl) (wd hw 6 rfl) (wd hw 38 rfl) (by decide) at_78 pd_4 rfl rfl rfl f1936 (add0_1_2 l Z a0 hw n0 h1932 f1935 s_EMPTY H b1917 R F S kR kF kS ((1 : Int32) + (p1 &&& (3 : Int32))) (0 : Int32) (0 : Int32) .null p3 (own_m1 (own_M p1).1) P1931) (Nat.le_of_ble_eq_true rfl) (Nat.le_of_ble_eq_true rfl) (Nat.le_of_ble_eq_true rfl) (Nat.le_of_ble_eq_true rfl) rfl rfl rfl (fun v1944 h1943 q1945 => ?_)
        obtain ⟨rfl, rg1937, kG1938, hg1939, K1940, Ag1941, P1942⟩ := q1945
        have ne_b1917_rg1937 : b1917 ≠ rg1937 := Nat.ne_of_lt (Nat.lt_of_lt_of_le f1936.lt hg1939)
        have ge_rg1937 : n0 ≤ rg1937 := Nat.le_trans (f1935.1 ▸ f1935.2.1) hg1939
        have ne_rg1937 := own_rc_ne P1931 hg1939
        have f1946 := f1935.keep K1940 (allS gR (allS gF (allS gS all0)))
        have f1947 := f1936.keep K1940
        show G w _ h1943 5 13 81 #[.val (.int p0), .val (.int p1), .val (.int p2), .val (.long p3), .second, .val (.long p4), .second, .val (.long p5), .second, .val (.int (2 : Int32)), .val (.int ((1 : Int32) + (p1 &&& (3 : Int32)))), .val (.int (0 : Int32)), .val (.int (1 : Int32)), .val (.int n), .val (.int dr), .val (.ref b1917), .unset] []
        refine g_aload C (pc' := 83) at_81 rfl rfl rfl ?_
        refine g_iload C (pc' := 85) at_83 rfl rfl ?_
        refine g_virtual C (pc' := 88) (k' := 5) (n' := 13) (argsL := [(.int (0 : Int32))]) (rest := []) (wd hw 26 rfl) (wd hw 27 rfl) (nfSel (wd hw 29 rfl)) (wd hw 29 rfl) (wd hw 28 rfl) (wd hw 6 rfl) (wd hw 30 rfl) (by decide) at_85 pd_3 rfl rfl rfl f1947 (clear_0 l Z a0 hw n0 h1943 f1946 s_EMPTY H b1917 R F S kR kF kS (2 : Int32) ((1 : Int32) + (p1 &&& (3 : Int32))) (0 : Int32) (0 : Int32) (0 : Int32) (1 : Int32) .null (.ref rg1937) P1942) (Nat.le_of_ble_eq_true rfl) (Nat.le_of_ble_eq_true rfl) (Nat.le_of_ble_eq_true rfl) (Nat.le_of_ble_eq_true rfl) rfl rfl rfl (fun v1951 h1950 q1952 => ?_)
        obtain ⟨rfl, K1948, P1949⟩ := q1952
        have f1953 := f1946.keep K1948 (allS gR (allS gF (allS gS all0)))
        have f1954 := f1947.keep K1948
        have f1955 := Ag1941.keep K1948 (ninS ne_rg1937.1 (ninS ne_rg1937.2.1 (ninS ne_rg1937.2.2 nin0)))
        show G w _ h1950 5 13 88 #[.val (.int p0), .val (.int p1), .val (.int p2), .val (.long p3), .second, .val (.long p4), .second, .val (.long p5), .second, .val (.int (2 : Int32)), .val (.int ((1 : Int32) + (p1 &&& (3 : Int32)))), .val (.int (0 : Int32)), .val (.int (1 : Int32)), .val (.int n), .val (.int dr), .val (.ref b1917), .unset] []
        by_cases h1 : n < 1
        · refine g_iload C (pc' := 90) at_88 rfl rfl ?_
          refine g_iconst C (pc' := 91) (v := (1 : Int32)) at_90 (by decide) rfl ?_
          refine g_icY C (pc' := 103) at_91 rfl (says_t (cd := .lt) (h1)) (by decide) rfl ?_
          refine g_iload C (pc' := 105) at_103 rfl rfl ?_
          refine g_iconst C (pc' := 106) (v := (2 : Int32)) at_105 (by decide) rfl ?_
          refine g_icY C (pc' := 122) at_106 rfl (says_t (cd := .lt) (own_12 h1)) (by decide) rfl ?_
          refine g_iload C (pc' := 124) at_122 rfl rfl ?_
          refine g_iconst C (pc' := 125) (v := (1 : Int32)) at_124 (by decide) rfl ?_
          refine g_icY C (pc' := 140) at_125 rfl (says_t (cd := .lt) (h1)) (by decide) rfl ?_
          refine g_aload C (pc' := 142) at_140 rfl rfl rfl ?_
          refine g_iload C (pc' := 144) at_142 rfl rfl ?_
          refine g_virtual C (pc' := 147) (k' := 5) (n' := 13) (argsL := [(.int (0 : Int32))]) (rest := []) (wd hw 26 rfl) (wd hw 27 rfl) (nfSel (wd hw 29 rfl)) (wd hw 29 rfl) (wd hw 28 rfl) (wd hw 6 rfl) (wd hw 30 rfl) (by decide) at_144 pd_3 rfl rfl rfl f1954 (clear_0 l Z a0 hw n0 h1950 f1953 s_EMPTY H b1917 R F S kR kF kS (2 : Int32) ((1 : Int32) + (p1 &&& (3 : Int32))) (0 : Int32) (0 : Int32) (0 : Int32) (1 : Int32) (.ref s_EMPTY) (.ref rg1937) P1949) (Nat.le_of_ble_eq_true rfl) (Nat.le_of_ble_eq_true rfl) (Nat.le_of_ble_eq_true rfl) (Nat.le_of_ble_eq_true rfl) rfl rfl rfl (fun v1959 h1958 q1960 => ?_)
          obtain ⟨rfl, K1956, P1957⟩ := q1960
          have f1961 := f1953.keep K1956 (allS gR (allS gF (allS gS all0)))
          have f1962 := f1954.keep K1956
          have f1963 := f1955.keep K1956 (ninS ne_rg1937.1 (ninS ne_rg1937.2.1 (ninS ne_rg1937.2.2 nin0)))
          show G w _ h1958 5 13 147 #[.val (.int p0), .val (.int p1), .val (.int p2), .val (.long p3), .second, .val (.long p4), .second, .val (.long p5), .second, .val (.int (2 : Int32)), .val (.int ((1 : Int32) + (p1 &&& (3 : Int32)))), .val (.int (0 : Int32)), .val (.int (1 : Int32)), .val (.int n), .val (.int dr), .val (.ref b1917), .unset] []
          refine G.more (k' := 7) (n' := 19) (Nat.le_of_ble_eq_true rfl) (Nat.le_of_ble_eq_true rfl) ?_
          exact JE _ f1961 n dr b1917 R F S kR kF kS rg1937 kG1938 ge_rg1937 ne_rg1937.1 ne_rg1937.2.1 ne_rg1937.2.2 f1963 P1957
        · by_cases h2 : n < 2
          · refine g_iload C (pc' := 90) at_88 rfl rfl ?_
            refine g_iconst C (pc' := 91) (v := (1 : Int32)) at_90 (by decide) rfl ?_
            refine g_icN C (pc' := 94) at_91 rfl (says_f (cd := .lt) (h1)) rfl ?_
            refine g_aload C (pc' := 96) at_94 rfl rfl rfl ?_
            refine g_iload C (pc' := 98) at_96 rfl rfl ?_
            refine g_lload C (pc' := 100) at_98 rfl rfl ?_
            refine g_virtual C (pc' := 103) (k' := 6) (n' := 15) (argsL := [(.int (0 : Int32)), (.long p4)]) (rest := []) (wd hw 34 rfl) (wd hw 35 rfl) (nfSel (wd hw 37 rfl)) (wd hw 37 rfl) (wd hw 36 rfl) (wd hw 6 rfl) (wd hw 38 rfl) (by decide) at_100 pd_4 rfl rfl rfl f1954 (add0_0_2 l Z a0 hw n0 h1950 f1953 s_EMPTY H b1917 R F S kR kF kS ((1 : Int32) + (p1 &&& (3 : Int32))) (0 : Int32) (1 : Int32) (.ref rg1937) p4 (own_m1 (own_M p1).1) P1949) (Nat.le_of_ble_eq_true rfl) (Nat.le_of_ble_eq_true rfl) (Nat.le_of_ble_eq_true rfl) (Nat.le_of_ble_eq_true rfl) rfl rfl rfl (fun v1971 h1970 q1972 => ?_)
            obtain ⟨rfl, rg1964, kG1965, hg1966, K1967, Ag1968, P1969⟩ := q1972
            have ne_b1917_rg1964 : b1917 ≠ rg1964 := Nat.ne_of_lt (Nat.lt_of_lt_of_le f1954.lt hg1966)
            have ne_rg1937_rg1964 : rg1937 ≠ rg1964 := Nat.ne_of_lt (Nat.lt_of_lt_of_le f1955.lt hg1966)
            have ge_rg1964 : n0 ≤ rg1964 := Nat.le_trans (f1953.1 ▸ f1953.2.1) hg1966
            have ne_rg1964 := own_rc_ne P1949 hg1966
            have f1973 := f1953.keep K1967 (allS gR (allS gF (allS gS all0)))
            have f1974 := f1954.keep K1967
            have f1975 := f1955.keep K1967 (ninS ne_rg1937.1 (ninS ne_rg1937.2.1 (ninS ne_rg1937.2.2 nin0)))
            show G w _ h1970 6 15 103 #[.val (.int p0), .val (.int p1), .val (.int p2), .val (.long p3), .second, .val (.long p4), .second, .val (.long p5), .second, .val (.int (2 : Int32)), .val (.int ((1 : Int32) + (p1 &&& (3 : Int32)))), .val (.int (0 : Int32)), .val (.int (1 : Int32)), .val (.int n), .val (.int dr), .val (.ref b1917), .unset] []
            refine g_iload C (pc' := 105) at_103 rfl rfl ?_
            refine g_iconst C (pc' := 106) (v := (2 : Int32)) at_105 (by decide) rfl ?_
            refine g_icY C (pc' := 122) at_106 rfl (says_t (cd := .lt) (h2)) (by decide) rfl ?_
            refine g_iload C (pc' := 124) at_122 rfl rfl ?_
            refine g_iconst C (pc' := 125) (v := (1 : Int32)) at_124 (by decide) rfl ?_
            refine g_icN C (pc' := 128) at_125 rfl (says_f (cd := .lt) (h1)) rfl ?_
            rcases hd with rfl | rfl
            · refine g_iload C (pc' := 130) at_128 rfl rfl ?_
              refine g_ifY C (pc' := 140) at_130 rfl (by decide) (by decide) rfl ?_
              refine g_aload C (pc' := 142) at_140 rfl rfl rfl ?_
              refine g_iload C (pc' := 144) at_142 rfl rfl ?_
              refine g_virtual C (pc' := 147) (k' := 6) (n' := 15) (argsL := [(.int (0 : Int32))]) (rest := []) (wd hw 26 rfl) (wd hw 27 rfl) (nfSel (wd hw 29 rfl)) (wd hw 29 rfl) (wd hw 28 rfl) (wd hw 6 rfl) (wd hw 30 rfl) (by decide) at_144 pd_3 rfl rfl rfl f1974 (clear_0 l Z a0 hw n0 h1970 f1973 s_EMPTY H b1917 R F S kR kF kS (2 : Int32) ((1 : Int32) + (p1 &&& (3 : Int32))) (0 : Int32) (0 : Int32) (1 : Int32) (1 : Int32) (.ref rg1964) (.ref rg1937) P1969) (Nat.le_of_ble_eq_true rfl) (Nat.le_of_ble_eq_true rfl) (Nat.le_of_ble_eq_true rfl) (Nat.le_of_ble_eq_true rfl) rfl rfl rfl (fun v1979 h1978 q1980 => ?_)
              obtain ⟨rfl, K1976, P1977⟩ := q1980
              have f1981 := f1973.keep K1976 (allS gR (allS gF (allS gS all0)))
              have f1982 := f1974.keep K1976
              have f1983 := f1975.keep K1976 (ninS ne_rg1937.1 (ninS ne_rg1937.2.1 (ninS ne_rg1937.2.2 nin0)))
              have f1984 := Ag1968.keep K1976 (ninS ne_rg1964.1 (ninS ne_rg1964.2.1 (ninS ne_rg1964.2.2 nin0)))
              show G w _ h1978 6 15 147 #[.val (.int p0), .val (.int p1), .val (.int p2), .val (.long p3), .second, .val (.long p4), .second, .val (.long p5), .second, .val (.int (2 : Int32)), .val (.int ((1 : Int32) + (p1 &&& (3 : Int32)))), .val (.int (0 : Int32)), .val (.int (1 : Int32)), .val (.int n), .val (.int (0 : Int32)), .val (.ref b1917), .unset] []
              refine G.more (k' := 7) (n' := 19) (Nat.le_of_ble_eq_true rfl) (Nat.le_of_ble_eq_true rfl) ?_
              exact JE _ f1981 n (0 : Int32) b1917 R F S kR kF kS rg1937 kG1938 ge_rg1937 ne_rg1937.1 ne_rg1937.2.1 ne_rg1937.2.2 f1983 P1977
            · refine g_iload C (pc' := 130) at_128 rfl rfl ?_
              refine g_ifN C (pc' := 133) at_130 rfl (by decide) rfl ?_
              refine g_aload C (pc' := 135) at_133 rfl rfl rfl ?_
              refine g_iload C (pc' := 137) at_135 rfl rfl ?_
              refine g_virtual C (pc' := 140) (k' := 6) (n' := 15) (argsL := [(.int (0 : Int32))]) (rest := []) (wd hw 73 rfl) (wd hw 74 rfl) (nfSel (wd hw 76 rfl)) (wd hw 76 rfl) (wd hw 75 rfl) (wd hw 6 rfl) (wd hw 77 rfl) (by decide) at_137 pd_3 rfl rfl rfl f1974 (rem1_0_2 l Z a0 hw n0 h1970 f1973 s_EMPTY H b1917 R F S kR kF kS ((1 : Int32) + (p1 &&& (3 : Int32))) (0 : Int32) (1 : Int32) (.ref rg1937) rg1964 kG1965 p4 (0 : Int64) Ag1968 ne_rg1964.1 ne_rg1964.2.1 ne_rg1964.2.2 P1969) (Nat.le_of_ble_eq_true rfl) (Nat.le_of_ble_eq_true rfl) (Nat.le_of_ble_eq_true rfl) (Nat.le_of_ble_eq_true rfl) rfl rfl rfl (fun v1988 h1987 q1989 => ?_)
              obtain ⟨rfl, K1985, P1986⟩ := q1989
              have f1990 := f1973.keep K1985 (allS gR (allS gF (allS gS all0)))
              have f1991 := f1974.keep K1985
              have f1992 := f1975.keep K1985 (ninS ne_rg1937.1 (ninS ne_rg1937.2.1 (ninS ne_rg1937.2.2 nin0)))
              have f1993 := Ag1968.keep K1985 (ninS ne_rg1964.1 (ninS ne_rg1964.2.1 (ninS ne_rg1964.2.2 nin0)))
              show G w _ h1987 6 15 140 #[.val (.int p0), .val (.int p1), .val (.int p2), .val (.long p3), .second, .val (.long p4), .second, .val (.long p5), .second, .val (.int (2 : Int32)), .val (.int ((1 : Int32) + (p1 &&& (3 : Int32)))), .val (.int (0 : Int32)), .val (.int (1 : Int32)), .val (.int n), .val (.int (1 : Int32)), .val (.ref b1917), .unset] []
              refine g_aload C (pc' := 142) at_140 rfl rfl rfl ?_
              refine g_iload C (pc' := 144) at_142 rfl rfl ?_
              refine g_virtual C (pc' := 147) (k' := 6) (n' := 15) (argsL := [(.int (0 : Int32))]) (rest := []) (wd hw 26 rfl) (wd hw 27 rfl) (nfSel (wd hw 29 rfl)) (wd hw 29 rfl) (wd hw 28 rfl) (wd hw 6 rfl) (wd hw 30 rfl) (by decide) at_144 pd_3 rfl rfl rfl f1991 (clear_0 l Z a0 hw n0 h1987 f1990 s_EMPTY H b1917 R F S kR kF kS (2 : Int32) ((1 : Int32) + (p1 &&& (3 : Int32))) (0 : Int32) (0 : Int32) (0 : Int32) (1 : Int32) (.ref rg1964) (.ref rg1937) P1986) (Nat.le_of_ble_eq_true rfl) (Nat.le_of_ble_eq_true rfl) (Nat.le_of_ble_eq_true rfl) (Nat.le_of_ble_eq_true rfl) rfl rfl rfl (fun v1997 h1996 q1998 => ?_)
              obtain ⟨rfl, K1994, P1995⟩ := q1998
              have f1999 := f1990.keep K1994 (allS gR (allS gF (allS gS all0)))
              have f2000 := f1991.keep K1994
              have f2001 := f1992.keep K1994 (ninS ne_rg1937.1 (ninS ne_rg1937.2.1 (ninS ne_rg1937.2.2 nin0)))
              have f2002 := f1993.keep K1994 (ninS ne_rg1964.1 (ninS ne_rg1964.2.1 (ninS ne_rg1964.2.2 nin0)))
              show G w _ h1996 6 15 147 #[.val (.int p0), .val (.int p1), .val (.int p2), .val (.long p3), .second, .val (.long p4), .second, .val (.long p5), .second, .val (.int (2 : Int32)), .val (.int ((1 : Int32) + (p1 &&& (3 : Int32)))), .val (.int (0 : Int32)), .val (.int (1 : Int32)), .val (.int n), .val (.int (1 : Int32)), .val (.ref b1917), .unset] []
              refine G.more (k' := 7) (n' := 19) (Nat.le_of_ble_eq_true rfl) (Nat.le_of_ble_eq_true rfl) ?_
              exact JE _ f1999 n (1 : Int32) b1917 R F S kR kF kS rg1937 kG1938 ge_rg1937 ne_rg1937.1 ne_rg1937.2.1 ne_rg1937.2.2 f2001 P1995
          · refine g_iload C (pc' := 90) at_88 rfl rfl ?_
            refine g_iconst C (pc' := 91) (v := (1 : Int32)) at_90 (by decide) rfl ?_
            refine g_icN C (pc' := 94) at_91 rfl (says_f (cd := .lt) (h1)) rfl ?_
            refine g_aload C (pc' := 96) at_94 rfl rfl rfl ?_
            refine g_iload C (pc' := 98) at_96 rfl rfl ?_
            refine g_lload C (pc' := 100) at_98 rfl rfl ?_
            refine g_virtual C (pc' := 103) (k' := 6) (n' := 15) (argsL := [(.int (0 : Int32)), (.long p4)]) (rest := []) (wd hw 34 rfl) (wd hw 35 rfl) (nfSel (wd hw 37 rfl)) (wd hw 37 rfl) (wd hw 36 rfl) (wd hw 6 rfl) (wd hw 38 rfl) (by decide) at_100 pd_4 rfl rfl rfl f1954 (add0_0_2 l Z a0 hw n0 h1950 f1953 s_EMPTY H b1917 R F S kR kF kS ((1 : Int32) + (p1 &&& (3 : Int32))) (0 : Int32) (1 : Int32) (.ref rg1937) p4 (own_m1 (own_M p1).1) P1949) (Nat.le_of_ble_eq_true rfl) (Nat.le_of_ble_eq_true rfl) (Nat.le_of_ble_eq_true rfl) (Nat.le_of_ble_eq_true rfl) rfl rfl rfl (fun v2010 h2009 q2011 => ?_)
            obtain ⟨rfl, rg2003, kG2004, hg2005, K2006, Ag2007, P2008⟩ := q2011
            have ne_b1917_rg2003 : b1917 ≠ rg2003 := Nat.ne_of_lt (Nat.lt_of_lt_of_le f1954.lt hg2005)
            have ne_rg1937_rg2003 : rg1937 ≠ rg2003 := Nat.ne_of_lt (Nat.lt_of_lt_of_le f1955.lt hg2005)
            have ge_rg2003 : n0 ≤ rg2003 := Nat.le_trans (f1953.1 ▸ f1953.2.1) hg2005
            have ne_rg2003 := own_rc_ne P1949 hg2005
            have f2012 := f1953.keep K2006 (allS gR (allS gF (allS gS all0)))
            have f2013 := f1954.keep K2006
            have f2014 := f1955.keep K2006 (ninS ne_rg1937.1 (ninS ne_rg1937.2.1 (ninS ne_rg1937.2.2 nin0)))
            show G w _ h2009 6 15 103 #[.val (.int p0), .val (.int p1), .val (.int p2), .val (.long p3), .second, .val (.long p4), .second, .val (.long p5), .second, .val (.int (2 : Int32)), .val (.int ((1 : Int32) + (p1 &&& (3 : Int32)))), .val (.int (0 : Int32)), .val (.int (1 : Int32)), .val (.int n), .val (.int dr), .val (.ref b1917), .unset] []
            refine g_iload C (pc' := 105) at_103 rfl rfl ?_
            refine g_iconst C (pc' := 106) (v := (2 : Int32)) at_105 (by decide) rfl ?_
            refine g_icN C (pc' := 109) at_106 rfl (says_f (cd := .lt) (h2)) rfl ?_
            refine g_aload C (pc' := 111) at_109 rfl rfl rfl ?_
            refine g_iload C (pc' := 113) at_111 rfl rfl ?_
            refine g_lload C (pc' := 115) at_113 rfl rfl ?_
            refine g_ldc2Long C (pc' := 118) (wd hw 72 rfl) at_115 rfl ?_
            refine g_lxor C (pc' := 119) at_118 rfl rfl ?_
            refine g_virtual C (pc' := 122) (k' := 7) (n' := 19) (argsL := [(.int (0 : Int32)), (.long (p4 ^^^ (-1 : Int64)))]) (rest := []) (wd hw 34 rfl) (wd hw 35 rfl) (nfSel (wd hw 37 rfl)) (wd hw 37 rfl) (wd hw 36 rfl) (wd hw 6 rfl) (wd hw 38 rfl) (by decide) at_119 pd_4 rfl rfl rfl f2013 (add1_0_2 l Z a0 hw n0 h2009 f2012 s_EMPTY H b1917 R F S kR kF kS ((1 : Int32) + (p1 &&& (3 : Int32))) (0 : Int32) (1 : Int32) (.ref rg1937) (p4 ^^^ (-1 : Int64)) rg2003 ge_rg2003 kG2004 p4 (0 : Int64) Ag2007 ne_rg2003.1 ne_rg2003.2.1 ne_rg2003.2.2 (own_m2 hn h2) P2008) (Nat.le_of_ble_eq_true rfl) (Nat.le_of_ble_eq_true rfl) (Nat.le_of_ble_eq_true rfl) (Nat.le_of_ble_eq_true rfl) rfl rfl rfl (fun v2022 h2021 q2023 => ?_)
            obtain ⟨rfl, rg2015, kG2016, hg2017, K2018, Ag2019, P2020⟩ := q2023
            have ne_b1917_rg2015 : b1917 ≠ rg2015 := Nat.ne_of_lt (Nat.lt_of_lt_of_le f2013.lt hg2017)
            have ne_rg1937_rg2015 : rg1937 ≠ rg2015 := Nat.ne_of_lt (Nat.lt_of_lt_of_le f2014.lt hg2017)
            have ne_rg2003_rg2015 : rg2003 ≠ rg2015 := Nat.ne_of_lt (Nat.lt_of_lt_of_le Ag2007.lt hg2017)
            have ge_rg2015 : n0 ≤ rg2015 := Nat.le_trans (f2012.1 ▸ f2012.2.1) hg2017
            have ne_rg2015 := own_rc_ne P2008 hg2017
            have f2024 := f2012.keep K2018 (allS gR (allS gF (allS gS all0)))
            have f2025 := f2013.keep K2018
            have f2026 := f2014.keep K2018 (ninS ne_rg1937.1 (ninS ne_rg1937.2.1 (ninS ne_rg1937.2.2 nin0)))
            have f2027 := Ag2007.keep K2018 (ninS ne_rg2003.1 (ninS ne_rg2003.2.1 (ninS ne_rg2003.2.2 nin0)))
            show G w _ h2021 7 19 122 #[.val (.int p0), .val (.int p1), .val (.int p2), .val (.long p3), .second, .val (.long p4), .second, .val (.long p5), .second, .val (.int (2 : Int32)), .val (.int ((1 : Int32) + (p1 &&& (3 : Int32)))), .val (.int (0 : Int32)), .val (.int (1 : Int32)), .val (.int n), .val (.int dr), .val (.ref b1917), .unset] []
            refine g_iload C (pc' := 124) at_122 rfl rfl ?_
            refine g_iconst C (pc' := 125) (v := (1 : Int32)) at_124 (by decide) rfl ?_
            refine g_icN C (pc' := 128) at_125 rfl (says_f (cd := .lt) (h1)) rfl ?_
            rcases hd with rfl | rfl
            · refine g_iload C (pc' := 130) at_128 rfl rfl ?_
              refine g_ifY C (pc' := 140) at_130 rfl (by decide) (by decide) rfl ?_
              refine g_aload C (pc' := 142) at_140 rfl rfl rfl ?_
              refine g_iload C (pc' := 144) at_142 rfl rfl ?_
              refine g_virtual C (pc' := 147) (k' := 7) (n' := 19) (argsL := [(.int (0 : Int32))]) (rest := []) (wd hw 26 rfl) (wd hw 27 rfl) (nfSel (wd hw 29 rfl)) (wd hw 29 rfl) (wd hw 28 rfl) (wd hw 6 rfl) (wd hw 30 rfl) (by decide) at_144 pd_3 rfl rfl rfl f2025 (clear_0 l Z a0 hw n0 h2021 f2024 s_EMPTY H b1917 R F S kR kF kS (2 : Int32) ((1 : Int32) + (p1 &&& (3 : Int32))) (0 : Int32) (0 : Int32) (2 : Int32) (1 : Int32) (.ref rg2015) (.ref rg1937) P2020) (Nat.le_of_ble_eq_true rfl) (Nat.le_of_ble_eq_true rfl) (Nat.le_of_ble_eq_true rfl) (Nat.le_of_ble_eq_true rfl) rfl rfl rfl (fun v2031 h2030 q2032 => ?_)
              obtain ⟨rfl, K2028, P2029⟩ := q2032
              have f2033 := f2024.keep K2028 (allS gR (allS gF (allS gS all0)))
              have f2034 := f2025.keep K2028
              have f2035 := f2026.keep K2028 (ninS ne_rg1937.1 (ninS ne_rg1937.2.1 (ninS ne_rg1937.2.2 nin0)))
              have f2036 := f2027.keep K2028 (ninS ne_rg2003.1 (ninS ne_rg2003.2.1 (ninS ne_rg2003.2.2 nin0)))
              have f2037 := Ag2019.keep K2028 (ninS ne_rg2015.1 (ninS ne_rg2015.2.1 (ninS ne_rg2015.2.2 nin0)))
              show G w _ h2030 7 19 147 #[.val (.int p0), .val (.int p1), .val (.int p2), .val (.long p3), .second, .val (.long p4), .second, .val (.long p5), .second, .val (.int (2 : Int32)), .val (.int ((1 : Int32) + (p1 &&& (3 : Int32)))), .val (.int (0 : Int32)), .val (.int (1 : Int32)), .val (.int n), .val (.int (0 : Int32)), .val (.ref b1917), .unset] []
              refine G.more (k' := 7) (n' := 19) (Nat.le_of_ble_eq_true rfl) (Nat.le_of_ble_eq_true rfl) ?_
              exact JE _ f2033 n (0 : Int32) b1917 R F S kR kF kS rg1937 kG1938 ge_rg1937 ne_rg1937.1 ne_rg1937.2.1 ne_rg1937.2.2 f2035 P2029
            · refine g_iload C (pc' := 130) at_128 rfl rfl ?_
              refine g_ifN C (pc' := 133) at_130 rfl (by decide) rfl ?_
              refine g_aload C (pc' := 135) at_133 rfl rfl rfl ?_
              refine g_iload C (pc' := 137) at_135 rfl rfl ?_
              refine g_virtual C (pc' := 140) (k' := 7) (n' := 19) (argsL := [(.int (0 : Int32))]) (rest := []) (wd hw 73 rfl) (wd hw 74 rfl) (nfSel (wd hw 76 rfl)) (wd hw 76 rfl) (wd hw 75 rfl) (wd hw 6 rfl) (wd hw 77 rfl) (by decide) at_137 pd_3 rfl rfl rfl f2025 (rem2_0_2 l Z a0 hw n0 h2021 f2024 s_EMPTY H b1917 R F S kR kF kS ((1 : Int32) + (p1 &&& (3 : Int32))) (0 : Int32) (1 : Int32) (.ref rg1937) rg2015 kG2016 p4 (0 : Int64) (p4 ^^^ (-1 : Int64)) (0 : Int64) Ag2019 ne_rg2015.1 ne_rg2015.2.1 ne_rg2015.2.2 P2020) (Nat.le_of_ble_eq_true rfl) (Nat.le_of_ble_eq_true rfl) (Nat.le_of_ble_eq_true rfl) (Nat.le_of_ble_eq_true rfl) rfl rfl rfl (fun v2041 h2040 q2042 => ?_)
              obtain ⟨rfl, K2038, P2039⟩ := q2042
              have f2043 := f2024.keep K2038 (allS gR (allS gF (allS gS all0)))
              have f2044 := f2025.keep K2038
              have f2045 := f2026.keep K2038 (ninS ne_rg1937.1 (ninS ne_rg1937.2.1 (ninS ne_rg1937.2.2 nin0)))
              have f2046 := f2027.keep K2038 (ninS ne_rg2003.1 (ninS ne_rg2003.2.1 (ninS ne_rg2003.2.2 nin0)))
              have f2047 := Ag2019.keep K2038 (ninS ne_rg2015.1 (ninS ne_rg2015.2.1 (ninS ne_rg2015.2.2 nin0)))
              show G w _ h2040 7 19 140 #[.val (.int p0), .val (.int p1), .val (.int p2), .val (.long p3), .second, .val (.long p4), .second, .val (.long p5), .second, .val (.int (2 : Int32)), .val (.int ((1 : Int32) + (p1 &&& (3 : Int32)))), .val (.int (0 : Int32)), .val (.int (1 : Int32)), .val (.int n), .val (.int (1 : Int32)), .val (.ref b1917), .unset] []
              refine g_aload C (pc' := 142) at_140 rfl rfl rfl ?_
              refine g_iload C (pc' := 144) at_142 rfl rfl ?_
              refine g_virtual C (pc' := 147) (k' := 7) (n' := 19) (argsL := [(.int (0 : Int32))]) (rest := []) (wd hw 26 rfl) (wd hw 27 rfl) (nfSel (wd hw 29 rfl)) (wd hw 29 rfl) (wd hw 28 rfl) (wd hw 6 rfl) (wd hw 30 rfl) (by decide) at_144 pd_3 rfl rfl rfl f2044 (clear_0 l Z a0 hw n0 h2040 f2043 s_EMPTY H b1917 R F S kR kF kS (2 : Int32) ((1 : Int32) + (p1 &&& (3 : Int32))) (2 : Int32) (0 : Int32) (1 : Int32) (1 : Int32) (.ref rg2015) (.ref rg1937) P2039) (Nat.le_of_ble_eq_true rfl) (Nat.le_of_ble_eq_true rfl) (Nat.le_of_ble_eq_true rfl) (Nat.le_of_ble_eq_true rfl) rfl rfl rfl (fun v2051 h2050 q2052 => ?_)
              obtain ⟨rfl, K2048, P2049⟩ := q2052
              have f2053 := f2043.keep K2048 (allS gR (allS gF (allS gS all0)))
              have f2054 := f2044.keep K2048
              have f2055 := f2045.keep K2048 (ninS ne_rg1937.1 (ninS ne_rg1937.2.1 (ninS ne_rg1937.2.2 nin0)))
              have f2056 := f2046.keep K2048 (ninS ne_rg2003.1 (ninS ne_rg2003.2.1 (ninS ne_rg2003.2.2 nin0)))
              have f2057 := f2047.keep K2048 (ninS ne_rg2015.1 (ninS ne_rg2015.2.1 (ninS ne_rg2015.2.2 nin0)))
              show G w _ h2050 7 19 147 #[.val (.int p0), .val (.int p1), .val (.int p2), .val (.long p3), .second, .val (.long p4), .second, .val (.long p5), .second, .val (.int (2 : Int32)), .val (.int ((1 : Int32) + (p1 &&& (3 : Int32)))), .val (.int (0 : Int32)), .val (.int (1 : Int32)), .val (.int n), .val (.int (1 : Int32)), .val (.ref b1917), .unset] []
              refine G.more (k' := 7) (n' := 19) (Nat.le_of_ble_eq_true rfl) (Nat.le_of_ble_eq_true rfl) ?_
              exact JE _ f2053 n (1 : Int32) b1917 R F S kR kF kS rg1937 kG1938 ge_rg1937 ne_rg1937.1 ne_rg1937.2.1 ne_rg1937.2.2 f2055 P2049
      have J35 : ∀ (n : Int32) (hn : ¬ ((1 : Int32) + (p1 &&& (3 : Int32))) < n), G w LQ h 0 0 35 #[.val (.int p0), .val (.int p1), .val (.int p2), .val (.long p3), .second, .val (.long p4), .second, .val (.long p5), .second, .val (.int (2 : Int32)), .val (.int ((1 : Int32) + (p1 &&& (3 : Int32)))), .val (.int (0 : Int32)), .val (.int (1 : Int32)), .unset, .unset, .unset, .unset] [(.int n)] := by
        intro n hn
        refine g_istore C (pc' := 37) (Ls' := #[.val (.int p0), .val (.int p1), .val (.int p2), .val (.long p3), .second, .val (.long p4), .second, .val (.long p5), .second, .val (.int (2 : Int32)), .val (.int ((1 : Int32) + (p1 &&& (3 : Int32)))), .val (.int (0 : Int32)), .val (.int (1 : Int32)), .val (.int n), .unset, .unset, .unset]) at_35 rfl rfl rfl ?_
        refine g_iloadN C (pc' := 38) at_37 rfl rfl ?_
        refine g_iconst C (pc' := 39) (v := (3 : Int32)) at_38 (by decide) rfl ?_
        refine g_iushr C (pc' := 40) at_39 rfl rfl ?_
        refine g_iconst C (pc' := 41) (v := (1 : Int32)) at_40 (by decide) rfl ?_
        refine g_iand C (pc' := 42) at_41 rfl rfl ?_
        refine g_ifB C (pcT := 49) (pc' := 45) at_42 rfl (by decide) rfl rfl (fun hc2058 => ?_) (fun hc2058 => ?_)
        · replace hc2058 : (((p2.toUInt32 >>> ((3 : Int32) &&& 31).toUInt32).toInt32) &&& (1 : Int32)) = (0 : Int32) := hc2058
          refine g_iconst C (pc' := 50) (v := (0 : Int32)) at_49 (by decide) rfl ?_
          refine g_istore C (pc' := 52) (Ls' := #[.val (.int p0), .val (.int p1), .val (.int p2), .val (.long p3), .second, .val (.long p4), .second, .val (.long p5), .second, .val (.int (2 : Int32)), .val (.int ((1 : Int32) + (p1 &&& (3 : Int32)))), .val (.int (0 : Int32)), .val (.int (1 : Int32)), .val (.int n), .val (.int (0 : Int32)), .unset, .unset]) at_50 rfl rfl rfl ?_
          exact J52 _ _ hn (Or.inl rfl)
        · replace hc2058 : ¬ (((p2.toUInt32 >>> ((3 : Int32) &&& 31).toUInt32).toInt32) &&& (1 : Int32)) = (0 : Int32) := hc2058
          refine g_iconst C (pc' := 46) (v := (1 : Int32)) at_45 (by decide) rfl ?_
          refine g_goto C (pc' := 50) at_46 (by decide) rfl ?_
          refine g_istore C (pc' := 52) (Ls' := #[.val (.int p0), .val (.int p1), .val (.int p2), .val (.long p3), .second, .val (.long p4), .second, .val (.long p5), .second, .val (.int (2 : Int32)), .val (.int ((1 : Int32) + (p1 &&& (3 : Int32)))), .val (.int (0 : Int32)), .val (.int (1 : Int32)), .val (.int n), .val (.int (1 : Int32)), .unset, .unset]) at_50 rfl rfl rfl ?_
          exact J52 _ _ hn (Or.inr rfl)
      by_cases hq : ((1 : Int32) + (p1 &&& (3 : Int32))) < (((p2.toUInt32 >>> ((1 : Int32) &&& 31).toUInt32).toInt32) &&& (3 : Int32))
      · refine g_callS C (pc' := 35) (k' := 0) (n' := 0) (argsL := [(.int (((p2.toUInt32 >>> ((1 : Int32) &&& 31).toUInt32).toInt32) &&& (3 : Int32))), (.int ((1 : Int32) + (p1 &&& (3 : Int32))))]) (rest := []) (wd hw 0 rfl) (wd hw 1 rfl) (wd hw 2 rfl) (wd hw 3 rfl) (by decide) at_32 pd_0 rfl rfl rfl (minI_gt l Z a0 hw n0 h O s_EMPTY H (((p2.toUInt32 >>> ((1 : Int32) &&& 31).toUInt32).toInt32) &&& (3 : Int32)) ((1 : Int32) + (p1 &&& (3 : Int32))) hq) (Nat.le_of_ble_eq_true rfl) (Nat.le_of_ble_eq_true rfl) (Nat.le_of_ble_eq_true rfl) (Nat.le_of_ble_eq_true rfl) rfl rfl rfl (fun v2060 h2059 q2061 => ?_)
        obtain ⟨rfl, eh2059⟩ := q2061
        subst h2059
        show G w _ h 0 0 35 #[.val (.int p0), .val (.int p1), .val (.int p2), .val (.long p3), .second, .val (.long p4), .second, .val (.long p5), .second, .val (.int (2 : Int32)), .val (.int ((1 : Int32) + (p1 &&& (3 : Int32)))), .val (.int (0 : Int32)), .val (.int (1 : Int32)), .unset, .unset, .unset, .unset] [(.int ((1 : Int32) + (p1 &&& (3 : Int32))))]
        exact J35 _ own_irr
      · refine g_callS C (pc' := 35) (k' := 0) (n' := 0) (argsL := [(.int (((p2.toUInt32 >>> ((1 : Int32) &&& 31).toUInt32).toInt32) &&& (3 : Int32))), (.int ((1 : Int32) + (p1 &&& (3 : Int32))))]) (rest := []) (wd hw 0 rfl) (wd hw 1 rfl) (wd hw 2 rfl) (wd hw 3 rfl) (by decide) at_32 pd_0 rfl rfl rfl (minI_lt l Z a0 hw n0 h O s_EMPTY H (((p2.toUInt32 >>> ((1 : Int32) &&& 31).toUInt32).toInt32) &&& (3 : Int32)) ((1 : Int32) + (p1 &&& (3 : Int32))) hq) (Nat.le_of_ble_eq_true rfl) (Nat.le_of_ble_eq_true rfl) (Nat.le_of_ble_eq_true rfl) (Nat.le_of_ble_eq_true rfl) rfl rfl rfl (fun v2063 h2062 q2064 => ?_)
        obtain ⟨rfl, eh2062⟩ := q2064
        subst h2062
        show G w _ h 0 0 35 #[.val (.int p0), .val (.int p1), .val (.int p2), .val (.long p3), .second, .val (.long p4), .second, .val (.long p5), .second, .val (.int (2 : Int32)), .val (.int ((1 : Int32) + (p1 &&& (3 : Int32)))), .val (.int (0 : Int32)), .val (.int (1 : Int32)), .unset, .unset, .unset, .unset] [(.int (((p2.toUInt32 >>> ((1 : Int32) &&& 31).toUInt32).toInt32) &&& (3 : Int32)))]
        exact J35 _ hq
    · rw [e2]
      refine g_istore C (pc' := 19) (Ls' := #[.val (.int p0), .val (.int p1), .val (.int p2), .val (.long p3), .second, .val (.long p4), .second, .val (.long p5), .second, .val (.int (2 : Int32)), .val (.int ((1 : Int32) + (p1 &&& (3 : Int32)))), .val (.int (1 : Int32)), .unset, .unset, .unset, .unset, .unset]) at_17 rfl rfl rfl ?_
      refine g_iconst C (pc' := 20) (v := (1 : Int32)) at_19 (by decide) rfl ?_
      refine g_iload C (pc' := 22) at_20 rfl rfl ?_
      refine g_isub C (pc' := 23) at_22 rfl rfl ?_
      rw [show ((1 : Int32) - (1 : Int32)) = (0 : Int32) from by decide]
      refine g_istore C (pc' := 25) (Ls' := #[.val (.int p0), .val (.int p1), .val (.int p2), .val (.long p3), .second, .val (.long p4), .second, .val (.long p5), .second, .val (.int (2 : Int32)), .val (.int ((1 : Int32) + (p1 &&& (3 : Int32)))), .val (.int (1 : Int32)), .val (.int (0 : Int32)), .unset, .unset, .unset, .unset]) at_23 rfl rfl rfl ?_
      refine g_iloadN C (pc' := 26) at_25 rfl rfl ?_
      refine g_iconst C (pc' := 27) (v := (1 : Int32)) at_26 (by decide) rfl ?_
      refine g_iushr C (pc' := 28) at_27 rfl rfl ?_
      refine g_iconst C (pc' := 29) (v := (3 : Int32)) at_28 (by decide) rfl ?_
      refine g_iand C (pc' := 30) at_29 rfl rfl ?_
      refine g_iload C (pc' := 32) at_30 rfl rfl ?_
      have JE : ∀ (h' : Heap) (O' : Old Z n0 h') (n dr : Int32) (c R F S : Addr) (kR kF kS : ClassId) (ro : Addr) (kO : ClassId) (go : n0 ≤ ro) (nR : ro ≠ R) (nF : ro ≠ F) (nS : ro ≠ S) (Ao : Arv Z h' ro kO .long (2 : Int32) [(.long p3), (.long (0 : Int64))] (.long (0 : Int64))) (P : RC Z n0 h' c R F S kR kF kS (2 : Int32) ((1 : Int32) + (p1 &&& (3 : Int32))) (.ref ro) (.ref s_EMPTY) (0 : Int32) (0 : Int32) (1 : Int32) (0 : Int32)), G w LQ h' 7 19 147 #[.val (.int p0), .val (.int p1), .val (.int p2), .val (.long p3), .second, .val (.long p4), .second, .val (.long p5), .second, .val (.int (2 : Int32)), .val (.int ((1 : Int32) + (p1 &&& (3 : Int32)))), .val (.int (1 : Int32)), .val (.int (0 : Int32)), .val (.int n), .val (.int dr), .val (.ref c), .unset] [] := by
        intro h' O' n dr c R F S kR kF kS ro kO go nR nF nS Ao P
        obtain ⟨gc, gR, gF, gS, n_c_R, n_c_F, n_c_S, n_R_F, n_R_S, n_F_S, Ov, E0, -⟩ := id P
        refine g_aload C (pc' := 149) at_147 rfl rfl rfl ?_
        refine g_iload C (pc' := 151) at_149 rfl rfl ?_
        refine g_virtual C (pc' := 154) (k' := 7) (n' := 19) (argsL := [(.int (1 : Int32))]) (rest := []) (wd hw 62 rfl) (wd hw 63 rfl) (nfSel (wd hw 65 rfl)) (wd hw 65 rfl) (wd hw 64 rfl) (wd hw 6 rfl) (wd hw 66 rfl) (by decide) at_151 pd_10 rfl rfl rfl E0 (size_1_0 l Z a0 hw n0 h' O' s_EMPTY H c R F S kR kF kS (2 : Int32) ((1 : Int32) + (p1 &&& (3 : Int32))) (0 : Int32) (0 : Int32) (1 : Int32) (.ref ro) (.ref s_EMPTY) P) (Nat.le_of_ble_eq_true rfl) (Nat.le_of_ble_eq_true rfl) (Nat.le_of_ble_eq_true rfl) (Nat.le_of_ble_eq_true rfl) rfl rfl rfl (fun v2066 h2065 q2067 => ?_)
        obtain ⟨rfl, eh2065⟩ := q2067
        subst h2065
        show G w _ h' 7 19 154 #[.val (.int p0), .val (.int p1), .val (.int p2), .val (.long p3), .second, .val (.long p4), .second, .val (.long p5), .second, .val (.int (2 : Int32)), .val (.int ((1 : Int32) + (p1 &&& (3 : Int32)))), .val (.int (1 : Int32)), .val (.int (0 : Int32)), .val (.int n), .val (.int dr), .val (.ref c), .unset] [(.int (0 : Int32))]
        refine g_ifN C (pc' := 157) at_154 rfl (by decide) rfl ?_
        refine g_aload C (pc' := 159) at_157 rfl rfl rfl ?_
        refine g_iload C (pc' := 161) at_159 rfl rfl ?_
        refine g_virtual C (pc' := 164) (k' := 7) (n' := 19) (argsL := [(.int (0 : Int32))]) (rest := []) (wd hw 62 rfl) (wd hw 63 rfl) (nfSel (wd hw 65 rfl)) (wd hw 65 rfl) (wd hw 64 rfl) (wd hw 6 rfl) (wd hw 66 rfl) (by decide) at_161 pd_10 rfl rfl rfl E0 (size_0_1 l Z a0 hw n0 h' O' s_EMPTY H c R F S kR kF kS (2 : Int32) ((1 : Int32) + (p1 &&& (3 : Int32))) (0 : Int32) (0 : Int32) (0 : Int32) (.ref ro) (.ref s_EMPTY) P) (Nat.le_of_ble_eq_true rfl) (Nat.le_of_ble_eq_true rfl) (Nat.le_of_ble_eq_true rfl) (Nat.le_of_ble_eq_true rfl) rfl rfl rfl (fun v2069 h2068 q2070 => ?_)
        obtain ⟨rfl, eh2068⟩ := q2070
        subst h2068
        show G w _ h' 7 19 164 #[.val (.int p0), .val (.int p1), .val (.int p2), .val (.long p3), .second, .val (.long p4), .second, .val (.long p5), .second, .val (.int (2 : Int32)), .val (.int ((1 : Int32) + (p1 &&& (3 : Int32)))), .val (.int (1 : Int32)), .val (.int (0 : Int32)), .val (.int n), .val (.int dr), .val (.ref c), .unset] [(.int (1 : Int32))]
        refine g_iconst C (pc' := 165) (v := (1 : Int32)) at_164 (by decide) rfl ?_
        refine g_icN C (pc' := 168) at_165 rfl (by decide) rfl ?_
        refine g_aload C (pc' := 170) at_168 rfl rfl rfl ?_
        refine g_iload C (pc' := 172) at_170 rfl rfl ?_
        refine g_iconst C (pc' := 173) (v := (0 : Int32)) at_172 (by decide) rfl ?_
        refine g_iconst C (pc' := 174) (v := (0 : Int32)) at_173 (by decide) rfl ?_
        refine g_virtual C (pc' := 177) (k' := 7) (n' := 19) (argsL := [(.int (0 : Int32)), (.int (0 : Int32)), (.int (0 : Int32))]) (rest := []) (wd hw 67 rfl) (wd hw 68 rfl) (nfSel (wd hw 70 rfl)) (wd hw 70 rfl) (wd hw 69 rfl) (wd hw 6 rfl) (wd hw 71 rfl) (by decide) at_174 pd_11 rfl rfl rfl E0 (get_0_2 l Z a0 hw n0 h' O' s_EMPTY H c R F S kR kF kS ((1 : Int32) + (p1 &&& (3 : Int32))) (0 : Int32) (1 : Int32) (0 : Int32) (.ref s_EMPTY) ro kO p3 (0 : Int64) Ao P) (Nat.le_of_ble_eq_true rfl) (Nat.le_of_ble_eq_true rfl) (Nat.le_of_ble_eq_true rfl) (Nat.le_of_ble_eq_true rfl) rfl rfl rfl (fun v2072 h2071 q2073 => ?_)
        obtain ⟨rfl, eh2071⟩ := q2073
        subst h2071
        show G w _ h' 7 19 177 #[.val (.int p0), .val (.int p1), .val (.int p2), .val (.long p3), .second, .val (.long p4), .second, .val (.long p5), .second, .val (.int (2 : Int32)), .val (.int ((1 : Int32) + (p1 &&& (3 : Int32)))), .val (.int (1 : Int32)), .val (.int (0 : Int32)), .val (.int n), .val (.int dr), .val (.ref c), .unset] [(.long p3)]
        refine g_lloadN C (pc' := 178) at_177 rfl rfl ?_
        refine g_lcmp C (pc' := 179) at_178 rfl rfl ?_
        refine g_ifN C (pc' := 182) at_179 rfl (says_f (cd := .ne) (fun q => q ((lw_eq _ _).mpr rfl))) rfl ?_
        refine g_iconst C (pc' := 183) (v := (1 : Int32)) at_182 (by decide) rfl ?_
        refine g_goto C (pc' := 187) at_183 (by decide) rfl ?_
        refine g_istore C (pc' := 189) (Ls' := #[.val (.int p0), .val (.int p1), .val (.int p2), .val (.long p3), .second, .val (.long p4), .second, .val (.long p5), .second, .val (.int (2 : Int32)), .val (.int ((1 : Int32) + (p1 &&& (3 : Int32)))), .val (.int (1 : Int32)), .val (.int (0 : Int32)), .val (.int n), .val (.int dr), .val (.ref c), .val (.int (1 : Int32))]) at_187 rfl rfl rfl ?_
        refine g_iload C (pc' := 191) at_189 rfl rfl ?_
        refine g_ifY C (pc' := 196) at_191 rfl (by decide) (by decide) rfl ?_
        refine g_aload C (pc' := 198) at_196 rfl rfl rfl ?_
        refine g_iload C (pc' := 200) at_198 rfl rfl ?_
        refine g_lload C (pc' := 202) at_200 rfl rfl ?_
        refine g_virtual C (pc' := 205) (k' := 8) (n' := 21) (argsL := [(.int (1 : Int32)), (.long p5)]) (rest := []) (wd hw 34 rfl) (wd hw 35 rfl) (nfSel (wd hw 37 rfl)) (wd hw 37 rfl) (wd hw 36 rfl) (wd hw 6 rfl) (wd hw 38 rfl) (by decide) at_202 pd_4 rfl rfl rfl E0 (add0_1_2 l Z a0 hw n0 h' O' s_EMPTY H c R F S kR kF kS ((1 : Int32) + (p1 &&& (3 : Int32))) (0 : Int32) (1 : Int32) (.ref ro) p5 (own_m1 (own_M p1).1) P) (Nat.le_of_ble_eq_true rfl) (Nat.le_of_ble_eq_true rfl) (Nat.le_of_ble_eq_true rfl) (Nat.le_of_ble_eq_true rfl) rfl rfl rfl (fun v2081 h2080 q2082 => ?_)
        obtain ⟨rfl, rg2074, kG2075, hg2076, K2077, Ag2078, P2079⟩ := q2082
        have ne_c_rg2074 : c ≠ rg2074 := Nat.ne_of_lt (Nat.lt_of_lt_of_le E0.lt hg2076)
        have ne_ro_rg2074 : ro ≠ rg2074 := Nat.ne_of_lt (Nat.lt_of_lt_of_le Ao.lt hg2076)
        have ge_rg2074 : n0 ≤ rg2074 := Nat.le_trans (O'.1 ▸ O'.2.1) hg2076
        have ne_rg2074 := own_rc_ne P hg2076
        have f2083 := O'.keep K2077 (allS gR (allS gF (allS gS all0)))
        have f2084 := E0.keep K2077
        have f2085 := Ao.keep K2077 (ninS nR (ninS nF (ninS nS nin0)))
        show G w _ h2080 8 21 205 #[.val (.int p0), .val (.int p1), .val (.int p2), .val (.long p3), .second, .val (.long p4), .second, .val (.long p5), .second, .val (.int (2 : Int32)), .val (.int ((1 : Int32) + (p1 &&& (3 : Int32)))), .val (.int (1 : Int32)), .val (.int (0 : Int32)), .val (.int n), .val (.int dr), .val (.ref c), .val (.int (1 : Int32))] []
        refine g_aload C (pc' := 207) at_205 rfl rfl rfl ?_
        refine g_iload C (pc' := 209) at_207 rfl rfl ?_
        refine g_iconst C (pc' := 210) (v := (0 : Int32)) at_209 (by decide) rfl ?_
        refine g_iconst C (pc' := 211) (v := (0 : Int32)) at_210 (by decide) rfl ?_
        refine g_virtual C (pc' := 214) (k' := 8) (n' := 21) (argsL := [(.int (1 : Int32)), (.int (0 : Int32)), (.int (0 : Int32))]) (rest := []) (wd hw 67 rfl) (wd hw 68 rfl) (nfSel (wd hw 70 rfl)) (wd hw 70 rfl) (wd hw 69 rfl) (wd hw 6 rfl) (wd hw 71 rfl) (by decide) at_211 pd_11 rfl rfl rfl f2084 (get_1_2 l Z a0 hw n0 h2080 f2083 s_EMPTY H c R F S kR kF kS ((1 : Int32) + (p1 &&& (3 : Int32))) (0 : Int32) (1 : Int32) (1 : Int32) (.ref ro) rg2074 kG2075 p5 (0 : Int64) Ag2078 P2079) (Nat.le_of_ble_eq_true rfl) (Nat.le_of_ble_eq_true rfl) (Nat.le_of_ble_eq_true rfl) (Nat.le_of_ble_eq_true rfl) rfl rfl rfl (fun v2087 h2086 q2088 => ?_)
        obtain ⟨rfl, eh2086⟩ := q2088
        subst h2086
        show G w _ h2080 8 21 214 #[.val (.int p0), .val (.int p1), .val (.int p2), .val (.long p3), .second, .val (.long p4), .second, .val (.long p5), .second, .val (.int (2 : Int32)), .val (.int ((1 : Int32) + (p1 &&& (3 : Int32)))), .val (.int (1 : Int32)), .val (.int (0 : Int32)), .val (.int n), .val (.int dr), .val (.ref c), .val (.int (1 : Int32))] [(.long p5)]
        refine g_lload C (pc' := 216) at_214 rfl rfl ?_
        refine g_lcmp C (pc' := 217) at_216 rfl rfl ?_
        refine g_ifN C (pc' := 220) at_217 rfl (says_f (cd := .ne) (fun q => q ((lw_eq _ _).mpr rfl))) rfl ?_
        refine g_iconst C (pc' := 221) (v := (1 : Int32)) at_220 (by decide) rfl ?_
        refine g_goto C (pc' := 225) at_221 (by decide) rfl ?_
        exact g_zreturn C at_225 rfl rfl (Nat.le_of_ble_eq_true rfl) (Nat.le_of_ble_eq_true rfl) (rfl)
      have J52 : ∀ (n dr : Int32) (hn : ¬ ((1 : Int32) + (p1 &&& (3 : Int32))) < n) (hd : dr = 0 ∨ dr = 1), G w LQ h 0 0 52 #[.val (.int p0), .val (.int p1), .val (.int p2), .val (.long p3), .second, .val (.long p4), .second, .val (.long p5), .second, .val (.int (2 : Int32)), .val (.int ((1 : Int32) + (p1 &&& (3 : Int32)))), .val (.int (1 : Int32)), .val (.int (0 : Int32)), .val (.int n), .val (.int dr), .unset, .unset] [] := by
        intro n dr hn hd
        refine g_new C (pc' := 55) (k' := 1) (n' := 5) (wd hw 4 rfl) (wd hw 5 rfl) (wd hw 6 rfl) at_52 (by decide) (by decide) rfl rfl rfl (fun h2089 b2090 ex2091 E2092 A2093 D2094 => ?_)
        have ge_b2090 : n0 ≤ b2090 := by rw [ex2091]; exact O.1 ▸ O.2.1
        have f2095 := O.ext E2092
        have F__width_b2090 : Fld Z h2089 b2090 "com/example/request_throttle/requestthrottle/RingColumn" "_width" "I" (.int (0 : Int32)) := D2094 (Or.inr (wd hw 14 rfl)) (ty := .int) (by decide)
        have F__most_b2090 : Fld Z h2089 b2090 "com/example/request_throttle/requestthrottle/RingColumn" "_most" "I" (.int (0 : Int32)) := D2094 (Or.inr (wd hw 16 rfl)) (ty := .int) (by decide)
        have F__rings_b2090 : Fld Z h2089 b2090 "com/example/request_throttle/requestthrottle/RingColumn" "_rings" "[[J" .null := D2094 (Or.inr (wd hw 20 rfl)) (ty := (.array (.array .long))) (by decide)
        have F__first_b2090 : Fld Z h2089 b2090 "com/example/request_throttle/requestthrottle/RingColumn" "_first" "[I" .null := D2094 (Or.inr (wd hw 23 rfl)) (ty := (.array .int)) (by decide)
        have F__size_b2090 : Fld Z h2089 b2090 "com/example/request_throttle/requestthrottle/RingColumn" "_size" "[I" .null := D2094 (Or.inr (wd hw 25 rfl)) (ty := (.array .int)) (by decide)
        refine g_dup C (pc' := 56) at_55 rfl rfl rfl ?_
        refine g_iload C (pc' := 58) at_56 rfl rfl ?_
        refine g_iload C (pc' := 60) at_58 rfl rfl ?_
        refine g_iconst C (pc' := 61) (v := (2 : Int32)) at_60 (by decide) rfl ?_
        refine g_special C (pc' := 64) (k' := 4) (n' := 11) (argsL := [(.int (2 : Int32)), (.int ((1 : Int32) + (p1 &&& (3 : Int32)))), (.int (2 : Int32))]) (rest := [(.ref b2090)]) (wd hw 7 rfl) (wd hw 8 rfl) (wd hw 6 rfl) (wd hw 9 rfl) (by decide) rfl at_61 pd_1 rfl rfl rfl (rc_init l Z a0 hw n0 h2089 f2095 s_EMPTY H b2090 ge_b2090 (2 : Int32) ((1 : Int32) + (p1 &&& (3 : Int32))) A2093 F__width_b2090 F__most_b2090 F__rings_b2090 F__first_b2090 F__size_b2090) (Nat.le_of_ble_eq_true rfl) (Nat.le_of_ble_eq_true rfl) (Nat.le_of_ble_eq_true rfl) (Nat.le_of_ble_eq_true rfl) rfl rfl rfl (fun v2099 h2098 q2100 => ?_)
        obtain ⟨rfl, K2096, R, F, S, kR, kF, kS, hR, hF, hS, P2097⟩ := q2100
        have f2101 := f2095.keep K2096 (allS ge_b2090 all0)
        have f2102 := A2093.keep K2096
        obtain ⟨gc, gR, gF, gS, n_c_R, n_c_F, n_c_S, n_R_F, n_R_S, n_F_S, -⟩ := id P2097
        show G w _ h2098 4 11 64 #[.val (.int p0), .val (.int p1), .val (.int p2), .val (.long p3), .second, .val (.long p4), .second, .val (.long p5), .second, .val (.int (2 : Int32)), .val (.int ((1 : Int32) + (p1 &&& (3 : Int32)))), .val (.int (1 : Int32)), .val (.int (0 : Int32)), .val (.int n), .val (.int dr), .unset, .unset] [(.ref b2090)]
        refine g_astore C (pc' := 66) (Ls' := #[.val (.int p0), .val (.int p1), .val (.int p2), .val (.long p3), .second, .val (.long p4), .second, .val (.long p5), .second, .val (.int (2 : Int32)), .val (.int ((1 : Int32) + (p1 &&& (3 : Int32)))), .val (.int (1 : Int32)), .val (.int (0 : Int32)), .val (.int n), .val (.int dr), .val (.ref b2090), .unset]) at_64 rfl rfl rfl rfl ?_
        refine g_aload C (pc' := 68) at_66 rfl rfl rfl ?_
        refine g_iload C (pc' := 70) at_68 rfl rfl ?_
        refine g_virtual C (pc' := 73) (k' := 4) (n' := 11) (argsL := [(.int (0 : Int32))]) (rest := []) (wd hw 26 rfl) (wd hw 27 rfl) (nfSel (wd hw 29 rfl)) (wd hw 29 rfl) (wd hw 28 rfl) (wd hw 6 rfl) (wd hw 30 rfl) (by decide) at_70 pd_3 rfl rfl rfl f2102 (clear_0 l Z a0 hw n0 h2098 f2101 s_EMPTY H b2090 R F S kR kF kS (2 : Int32) ((1 : Int32) + (p1 &&& (3 : Int32))) (0 : Int32) (0 : Int32) (0 : Int32) (0 : Int32) .null .null P2097) (Nat.le_of_ble_eq_true rfl) (Nat.le_of_ble_eq_true rfl) (Nat.le_of_ble_eq_true rfl) (Nat.le_of_ble_eq_true rfl) rfl rfl rfl (fun v2106 h2105 q2107 => ?_)
        obtain ⟨rfl, K2103, P2104⟩ := q2107
        have f2108 := f2101.keep K2103 (allS gR (allS gF (allS gS all0)))
        have f2109 := f2102.keep K2103
        show G w _ h2105 4 11 73 #[.val (.int p0), .val (.int p1), .val (.int p2), .val (.long p3), .second, .val (.long p4), .second, .val (.long p5), .second, .val (.int (2 : Int32)), .val (.int ((1 : Int32) + (p1 &&& (3 : Int32)))), .val (.int (1 : Int32)), .val (.int (0 : Int32)), .val (.int n), .val (.int dr), .val (.ref b2090), .unset] []
        refine g_aload C (pc' := 75) at_73 rfl rfl rfl ?_
        refine g_iload C (pc' := 77) at_75 rfl rfl ?_
        refine g_lloadN C (pc' := 78) at_77 rfl rfl ?_
        refine g_virtual C (pc' := 81) (k' := 5) (n' := 13) (argsL := [(.int (0 : Int32)), (.long p3)]) (rest := []) (wd hw 34 rfl) (wd hw 35 rfl) (nfSel (wd hw 37 rfl)) (wd hw 37 rfl) (wd hw 36 rfl) (wd hw 6 rfl) (wd hw 38 rfl) (by decide) at_78 pd_4 rfl rfl rfl f2109 (add0_0_2 l Z a0 hw n0 h2105 f2108 s_EMPTY H b2090 R F S kR kF kS ((1 : Int32) + (p1 &&& (3 : Int32))) (0 : Int32) (0 : Int32) .null p3 (own_m1 (own_M p1).1) P2104) (Nat.le_of_ble_eq_true rfl) (Nat.le_of_ble_eq_true rfl) (Nat.le_of_ble_eq_true rfl) (Nat.le_of_ble_eq_true rfl) rfl rfl rfl (fun v2117 h2116 q2118 => ?_)
        obtain ⟨rfl, rg2110, kG2111, hg2112, K2113, Ag2114, P2115⟩ := q2118
        have ne_b2090_rg2110 : b2090 ≠ rg2110 := Nat.ne_of_lt (Nat.lt_of_lt_of_le f2109.lt hg2112)
        have ge_rg2110 : n0 ≤ rg2110 := Nat.le_trans (f2108.1 ▸ f2108.2.1) hg2112
        have ne_rg2110 := own_rc_ne P2104 hg2112
        have f2119 := f2108.keep K2113 (allS gR (allS gF (allS gS all0)))
        have f2120 := f2109.keep K2113
        show G w _ h2116 5 13 81 #[.val (.int p0), .val (.int p1), .val (.int p2), .val (.long p3), .second, .val (.long p4), .second, .val (.long p5), .second, .val (.int (2 : Int32)), .val (.int ((1 : Int32) + (p1 &&& (3 : Int32)))), .val (.int (1 : Int32)), .val (.int (0 : Int32)), .val (.int n), .val (.int dr), .val (.ref b2090), .unset] []
        refine g_aload C (pc' := 83) at_81 rfl rfl rfl ?_
        refine g_iload C (pc' := 85) at_83 rfl rfl ?_
        refine g_virtual C (pc' := 88) (k' := 5) (n' := 13) (argsL := [(.int (1 : Int32))]) (rest := []) (wd hw 26 rfl) (wd hw 27 rfl) (nfSel (wd hw 29 rfl)) (wd hw 29 rfl) (wd hw 28 rfl) (wd hw 6 rfl) (wd hw 30 rfl) (by decide) at_85 pd_3 rfl rfl rfl f2120 (clear_1 l Z a0 hw n0 h2116 f2119 s_EMPTY H b2090 R F S kR kF kS (2 : Int32) ((1 : Int32) + (p1 &&& (3 : Int32))) (0 : Int32) (0 : Int32) (1 : Int32) (0 : Int32) (.ref rg2110) .null P2115) (Nat.le_of_ble_eq_true rfl) (Nat.le_of_ble_eq_true rfl) (Nat.le_of_ble_eq_true rfl) (Nat.le_of_ble_eq_true rfl) rfl rfl rfl (fun v2124 h2123 q2125 => ?_)
        obtain ⟨rfl, K2121, P2122⟩ := q2125
        have f2126 := f2119.keep K2121 (allS gR (allS gF (allS gS all0)))
        have f2127 := f2120.keep K2121
        have f2128 := Ag2114.keep K2121 (ninS ne_rg2110.1 (ninS ne_rg2110.2.1 (ninS ne_rg2110.2.2 nin0)))
        show G w _ h2123 5 13 88 #[.val (.int p0), .val (.int p1), .val (.int p2), .val (.long p3), .second, .val (.long p4), .second, .val (.long p5), .second, .val (.int (2 : Int32)), .val (.int ((1 : Int32) + (p1 &&& (3 : Int32)))), .val (.int (1 : Int32)), .val (.int (0 : Int32)), .val (.int n), .val (.int dr), .val (.ref b2090), .unset] []
        by_cases h1 : n < 1
        · refine g_iload C (pc' := 90) at_88 rfl rfl ?_
          refine g_iconst C (pc' := 91) (v := (1 : Int32)) at_90 (by decide) rfl ?_
          refine g_icY C (pc' := 103) at_91 rfl (says_t (cd := .lt) (h1)) (by decide) rfl ?_
          refine g_iload C (pc' := 105) at_103 rfl rfl ?_
          refine g_iconst C (pc' := 106) (v := (2 : Int32)) at_105 (by decide) rfl ?_
          refine g_icY C (pc' := 122) at_106 rfl (says_t (cd := .lt) (own_12 h1)) (by decide) rfl ?_
          refine g_iload C (pc' := 124) at_122 rfl rfl ?_
          refine g_iconst C (pc' := 125) (v := (1 : Int32)) at_124 (by decide) rfl ?_
          refine g_icY C (pc' := 140) at_125 rfl (says_t (cd := .lt) (h1)) (by decide) rfl ?_
          refine g_aload C (pc' := 142) at_140 rfl rfl rfl ?_
          refine g_iload C (pc' := 144) at_142 rfl rfl ?_
          refine g_virtual C (pc' := 147) (k' := 5) (n' := 13) (argsL := [(.int (1 : Int32))]) (rest := []) (wd hw 26 rfl) (wd hw 27 rfl) (nfSel (wd hw 29 rfl)) (wd hw 29 rfl) (wd hw 28 rfl) (wd hw 6 rfl) (wd hw 30 rfl) (by decide) at_144 pd_3 rfl rfl rfl f2127 (clear_1 l Z a0 hw n0 h2123 f2126 s_EMPTY H b2090 R F S kR kF kS (2 : Int32) ((1 : Int32) + (p1 &&& (3 : Int32))) (0 : Int32) (0 : Int32) (1 : Int32) (0 : Int32) (.ref rg2110) (.ref s_EMPTY) P2122) (Nat.le_of_ble_eq_true rfl) (Nat.le_of_ble_eq_true rfl) (Nat.le_of_ble_eq_true rfl) (Nat.le_of_ble_eq_true rfl) rfl rfl rfl (fun v2132 h2131 q2133 => ?_)
          obtain ⟨rfl, K2129, P2130⟩ := q2133
          have f2134 := f2126.keep K2129 (allS gR (allS gF (allS gS all0)))
          have f2135 := f2127.keep K2129
          have f2136 := f2128.keep K2129 (ninS ne_rg2110.1 (ninS ne_rg2110.2.1 (ninS ne_rg2110.2.2 nin0)))
          show G w _ h2131 5 13 147 #[.val (.int p0), .val (.int p1), .val (.int p2), .val (.long p3), .second, .val (.long p4), .second, .val (.long p5), .second, .val (.int (2 : Int32)), .val (.int ((1 : Int32) + (p1 &&& (3 : Int32)))), .val (.int (1 : Int32)), .val (.int (0 : Int32)), .val (.int n), .val (.int dr), .val (.ref b2090), .unset] []
          refine G.more (k' := 7) (n' := 19) (Nat.le_of_ble_eq_true rfl) (Nat.le_of_ble_eq_true rfl) ?_
          exact JE _ f2134 n dr b2090 R F S kR kF kS rg2110 kG2111 ge_rg2110 ne_rg2110.1 ne_rg2110.2.1 ne_rg2110.2.2 f2136 P2130
        · by_cases h2 : n < 2
          · refine g_iload C (pc' := 90) at_88 rfl rfl ?_
            refine g_iconst C (pc' := 91) (v := (1 : Int32)) at_90 (by decide) rfl ?_
            refine g_icN C (pc' := 94) at_91 rfl (says_f (cd := .lt) (h1)) rfl ?_
            refine g_aload C (pc' := 96) at_94 rfl rfl rfl ?_
            refine g_iload C (pc' := 98) at_96 rfl rfl ?_
            refine g_lload C (pc' := 100) at_98 rfl rfl ?_
            refine g_virtual C (pc' := 103) (k' := 6) (n' := 15) (argsL := [(.int (1 : Int32)), (.long p4)]) (rest := []) (wd hw 34 rfl) (wd hw 35 rfl) (nfSel (wd hw 37 rfl)) (wd hw 37 rfl) (wd hw 36 rfl) (wd hw 6 rfl) (wd hw 38 rfl) (by decide) at_100 pd_4 rfl rfl rfl f2127 (add0_1_2 l Z a0 hw n0 h2123 f2126 s_EMPTY H b2090 R F S kR kF kS ((1 : Int32) + (p1 &&& (3 : Int32))) (0 : Int32) (1 : Int32) (.ref rg2110) p4 (own_m1 (own_M p1).1) P2122) (Nat.le_of_ble_eq_true rfl) (Nat.le_of_ble_eq_true rfl) (Nat.le_of_ble_eq_true rfl) (Nat.le_of_ble_eq_true rfl) rfl rfl rfl (fun v2144 h2143 q2145 => ?_)
            obtain ⟨rfl, rg2137, kG2138, hg2139, K2140, Ag2141, P2142⟩ := q2145
            have ne_b2090_rg2137 : b2090 ≠ rg2137 := Nat.ne_of_lt (Nat.lt_of_lt_of_le f2127.lt hg2139)
            have ne_rg2110_rg2137 : rg2110 ≠ rg2137 := Nat.ne_of_lt (Nat.lt_of_lt_of_le f2128.lt hg2139)
            have ge_rg2137 : n0 ≤ rg2137 := Nat.le_trans (f2126.1 ▸ f2126.2.1) hg2139
            have ne_rg2137 := own_rc_ne P2122 hg2139
            have f2146 := f2126.keep K2140 (allS gR (allS gF (allS gS all0)))
            have f2147 := f2127.keep K2140
            have f2148 := f2128.keep K2140 (ninS ne_rg2110.1 (ninS ne_rg2110.2.1 (ninS ne_rg2110.2.2 nin0)))
            show G w _ h2143 6 15 103 #[.val (.int p0), .val (.int p1), .val (.int p2), .val (.long p3), .second, .val (.long p4), .second, .val (.long p5), .second, .val (.int (2 : Int32)), .val (.int ((1 : Int32) + (p1 &&& (3 : Int32)))), .val (.int (1 : Int32)), .val (.int (0 : Int32)), .val (.int n), .val (.int dr), .val (.ref b2090), .unset] []
            refine g_iload C (pc' := 105) at_103 rfl rfl ?_
            refine g_iconst C (pc' := 106) (v := (2 : Int32)) at_105 (by decide) rfl ?_
            refine g_icY C (pc' := 122) at_106 rfl (says_t (cd := .lt) (h2)) (by decide) rfl ?_
            refine g_iload C (pc' := 124) at_122 rfl rfl ?_
            refine g_iconst C (pc' := 125) (v := (1 : Int32)) at_124 (by decide) rfl ?_
            refine g_icN C (pc' := 128) at_125 rfl (says_f (cd := .lt) (h1)) rfl ?_
            rcases hd with rfl | rfl
            · refine g_iload C (pc' := 130) at_128 rfl rfl ?_
              refine g_ifY C (pc' := 140) at_130 rfl (by decide) (by decide) rfl ?_
              refine g_aload C (pc' := 142) at_140 rfl rfl rfl ?_
              refine g_iload C (pc' := 144) at_142 rfl rfl ?_
              refine g_virtual C (pc' := 147) (k' := 6) (n' := 15) (argsL := [(.int (1 : Int32))]) (rest := []) (wd hw 26 rfl) (wd hw 27 rfl) (nfSel (wd hw 29 rfl)) (wd hw 29 rfl) (wd hw 28 rfl) (wd hw 6 rfl) (wd hw 30 rfl) (by decide) at_144 pd_3 rfl rfl rfl f2147 (clear_1 l Z a0 hw n0 h2143 f2146 s_EMPTY H b2090 R F S kR kF kS (2 : Int32) ((1 : Int32) + (p1 &&& (3 : Int32))) (0 : Int32) (0 : Int32) (1 : Int32) (1 : Int32) (.ref rg2110) (.ref rg2137) P2142) (Nat.le_of_ble_eq_true rfl) (Nat.le_of_ble_eq_true rfl) (Nat.le_of_ble_eq_true rfl) (Nat.le_of_ble_eq_true rfl) rfl rfl rfl (fun v2152 h2151 q2153 => ?_)
              obtain ⟨rfl, K2149, P2150⟩ := q2153
              have f2154 := f2146.keep K2149 (allS gR (allS gF (allS gS all0)))
              have f2155 := f2147.keep K2149
              have f2156 := f2148.keep K2149 (ninS ne_rg2110.1 (ninS ne_rg2110.2.1 (ninS ne_rg2110.2.2 nin0)))
              have f2157 := Ag2141.keep K2149 (ninS ne_rg2137.1 (ninS ne_rg2137.2.1 (ninS ne_rg2137.2.2 nin0)))
              show G w _ h2151 6 15 147 #[.val (.int p0), .val (.int p1), .val (.int p2), .val (.long p3), .second, .val (.long p4), .second, .val (.long p5), .second, .val (.int (2 : Int32)), .val (.int ((1 : Int32) + (p1 &&& (3 : Int32)))), .val (.int (1 : Int32)), .val (.int (0 : Int32)), .val (.int n), .val (.int (0 : Int32)), .val (.ref b2090), .unset] []
              refine G.more (k' := 7) (n' := 19) (Nat.le_of_ble_eq_true rfl) (Nat.le_of_ble_eq_true rfl) ?_
              exact JE _ f2154 n (0 : Int32) b2090 R F S kR kF kS rg2110 kG2111 ge_rg2110 ne_rg2110.1 ne_rg2110.2.1 ne_rg2110.2.2 f2156 P2150
            · refine g_iload C (pc' := 130) at_128 rfl rfl ?_
              refine g_ifN C (pc' := 133) at_130 rfl (by decide) rfl ?_
              refine g_aload C (pc' := 135) at_133 rfl rfl rfl ?_
              refine g_iload C (pc' := 137) at_135 rfl rfl ?_
              refine g_virtual C (pc' := 140) (k' := 6) (n' := 15) (argsL := [(.int (1 : Int32))]) (rest := []) (wd hw 73 rfl) (wd hw 74 rfl) (nfSel (wd hw 76 rfl)) (wd hw 76 rfl) (wd hw 75 rfl) (wd hw 6 rfl) (wd hw 77 rfl) (by decide) at_137 pd_3 rfl rfl rfl f2147 (rem1_1_2 l Z a0 hw n0 h2143 f2146 s_EMPTY H b2090 R F S kR kF kS ((1 : Int32) + (p1 &&& (3 : Int32))) (0 : Int32) (1 : Int32) (.ref rg2110) rg2137 kG2138 p4 (0 : Int64) Ag2141 ne_rg2137.1 ne_rg2137.2.1 ne_rg2137.2.2 P2142) (Nat.le_of_ble_eq_true rfl) (Nat.le_of_ble_eq_true rfl) (Nat.le_of_ble_eq_true rfl) (Nat.le_of_ble_eq_true rfl) rfl rfl rfl (fun v2161 h2160 q2162 => ?_)
              obtain ⟨rfl, K2158, P2159⟩ := q2162
              have f2163 := f2146.keep K2158 (allS gR (allS gF (allS gS all0)))
              have f2164 := f2147.keep K2158
              have f2165 := f2148.keep K2158 (ninS ne_rg2110.1 (ninS ne_rg2110.2.1 (ninS ne_rg2110.2.2 nin0)))
              have f2166 := Ag2141.keep K2158 (ninS ne_rg2137.1 (ninS ne_rg2137.2.1 (ninS ne_rg2137.2.2 nin0)))
              show G w _ h2160 6 15 140 #[.val (.int p0), .val (.int p1), .val (.int p2), .val (.long p3), .second, .val (.long p4), .second, .val (.long p5), .second, .val (.int (2 : Int32)), .val (.int ((1 : Int32) + (p1 &&& (3 : Int32)))), .val (.int (1 : Int32)), .val (.int (0 : Int32)), .val (.int n), .val (.int (1 : Int32)), .val (.ref b2090), .unset] []
              refine g_aload C (pc' := 142) at_140 rfl rfl rfl ?_
              refine g_iload C (pc' := 144) at_142 rfl rfl ?_
              refine g_virtual C (pc' := 147) (k' := 6) (n' := 15) (argsL := [(.int (1 : Int32))]) (rest := []) (wd hw 26 rfl) (wd hw 27 rfl) (nfSel (wd hw 29 rfl)) (wd hw 29 rfl) (wd hw 28 rfl) (wd hw 6 rfl) (wd hw 30 rfl) (by decide) at_144 pd_3 rfl rfl rfl f2164 (clear_1 l Z a0 hw n0 h2160 f2163 s_EMPTY H b2090 R F S kR kF kS (2 : Int32) ((1 : Int32) + (p1 &&& (3 : Int32))) (0 : Int32) (0 : Int32) (1 : Int32) (0 : Int32) (.ref rg2110) (.ref rg2137) P2159) (Nat.le_of_ble_eq_true rfl) (Nat.le_of_ble_eq_true rfl) (Nat.le_of_ble_eq_true rfl) (Nat.le_of_ble_eq_true rfl) rfl rfl rfl (fun v2170 h2169 q2171 => ?_)
              obtain ⟨rfl, K2167, P2168⟩ := q2171
              have f2172 := f2163.keep K2167 (allS gR (allS gF (allS gS all0)))
              have f2173 := f2164.keep K2167
              have f2174 := f2165.keep K2167 (ninS ne_rg2110.1 (ninS ne_rg2110.2.1 (ninS ne_rg2110.2.2 nin0)))
              have f2175 := f2166.keep K2167 (ninS ne_rg2137.1 (ninS ne_rg2137.2.1 (ninS ne_rg2137.2.2 nin0)))
              show G w _ h2169 6 15 147 #[.val (.int p0), .val (.int p1), .val (.int p2), .val (.long p3), .second, .val (.long p4), .second, .val (.long p5), .second, .val (.int (2 : Int32)), .val (.int ((1 : Int32) + (p1 &&& (3 : Int32)))), .val (.int (1 : Int32)), .val (.int (0 : Int32)), .val (.int n), .val (.int (1 : Int32)), .val (.ref b2090), .unset] []
              refine G.more (k' := 7) (n' := 19) (Nat.le_of_ble_eq_true rfl) (Nat.le_of_ble_eq_true rfl) ?_
              exact JE _ f2172 n (1 : Int32) b2090 R F S kR kF kS rg2110 kG2111 ge_rg2110 ne_rg2110.1 ne_rg2110.2.1 ne_rg2110.2.2 f2174 P2168
          · refine g_iload C (pc' := 90) at_88 rfl rfl ?_
            refine g_iconst C (pc' := 91) (v := (1 : Int32)) at_90 (by decide) rfl ?_
            refine g_icN C (pc' := 94) at_91 rfl (says_f (cd := .lt) (h1)) rfl ?_
            refine g_aload C (pc' := 96) at_94 rfl rfl rfl ?_
            refine g_iload C (pc' := 98) at_96 rfl rfl ?_
            refine g_lload C (pc' := 100) at_98 rfl rfl ?_
            refine g_virtual C (pc' := 103) (k' := 6) (n' := 15) (argsL := [(.int (1 : Int32)), (.long p4)]) (rest := []) (wd hw 34 rfl) (wd hw 35 rfl) (nfSel (wd hw 37 rfl)) (wd hw 37 rfl) (wd hw 36 rfl) (wd hw 6 rfl) (wd hw 38 rfl) (by decide) at_100 pd_4 rfl rfl rfl f2127 (add0_1_2 l Z a0 hw n0 h2123 f2126 s_EMPTY H b2090 R F S kR kF kS ((1 : Int32) + (p1 &&& (3 : Int32))) (0 : Int32) (1 : Int32) (.ref rg2110) p4 (own_m1 (own_M p1).1) P2122) (Nat.le_of_ble_eq_true rfl) (Nat.le_of_ble_eq_true rfl) (Nat.le_of_ble_eq_true rfl) (Nat.le_of_ble_eq_true rfl) rfl rfl rfl (fun v2183 h2182 q2184 => ?_)
            obtain ⟨rfl, rg2176, kG2177, hg2178, K2179, Ag2180, P2181⟩ := q2184
            have ne_b2090_rg2176 : b2090 ≠ rg2176 := Nat.ne_of_lt (Nat.lt_of_lt_of_le f2127.lt hg2178)
            have ne_rg2110_rg2176 : rg2110 ≠ rg2176 := Nat.ne_of_lt (Nat.lt_of_lt_of_le f2128.lt hg2178)
            have ge_rg2176 : n0 ≤ rg2176 := Nat.le_trans (f2126.1 ▸ f2126.2.1) hg2178
            have ne_rg2176 := own_rc_ne P2122 hg2178
            have f2185 := f2126.keep K2179 (allS gR (allS gF (allS gS all0)))
            have f2186 := f2127.keep K2179
            have f2187 := f2128.keep K2179 (ninS ne_rg2110.1 (ninS ne_rg2110.2.1 (ninS ne_rg2110.2.2 nin0)))
            show G w _ h2182 6 15 103 #[.val (.int p0), .val (.int p1), .val (.int p2), .val (.long p3), .second, .val (.long p4), .second, .val (.long p5), .second, .val (.int (2 : Int32)), .val (.int ((1 : Int32) + (p1 &&& (3 : Int32)))), .val (.int (1 : Int32)), .val (.int (0 : Int32)), .val (.int n), .val (.int dr), .val (.ref b2090), .unset] []
            refine g_iload C (pc' := 105) at_103 rfl rfl ?_
            refine g_iconst C (pc' := 106) (v := (2 : Int32)) at_105 (by decide) rfl ?_
            refine g_icN C (pc' := 109) at_106 rfl (says_f (cd := .lt) (h2)) rfl ?_
            refine g_aload C (pc' := 111) at_109 rfl rfl rfl ?_
            refine g_iload C (pc' := 113) at_111 rfl rfl ?_
            refine g_lload C (pc' := 115) at_113 rfl rfl ?_
            refine g_ldc2Long C (pc' := 118) (wd hw 72 rfl) at_115 rfl ?_
            refine g_lxor C (pc' := 119) at_118 rfl rfl ?_
            refine g_virtual C (pc' := 122) (k' := 7) (n' := 19) (argsL := [(.int (1 : Int32)), (.long (p4 ^^^ (-1 : Int64)))]) (rest := []) (wd hw 34 rfl) (wd hw 35 rfl) (nfSel (wd hw 37 rfl)) (wd hw 37 rfl) (wd hw 36 rfl) (wd hw 6 rfl) (wd hw 38 rfl) (by decide) at_119 pd_4 rfl rfl rfl f2186 (add1_1_2 l Z a0 hw n0 h2182 f2185 s_EMPTY H b2090 R F S kR kF kS ((1 : Int32) + (p1 &&& (3 : Int32))) (0 : Int32) (1 : Int32) (.ref rg2110) (p4 ^^^ (-1 : Int64)) rg2176 ge_rg2176 kG2177 p4 (0 : Int64) Ag2180 ne_rg2176.1 ne_rg2176.2.1 ne_rg2176.2.2 (own_m2 hn h2) P2181) (Nat.le_of_ble_eq_true rfl) (Nat.le_of_ble_eq_true rfl) (Nat.le_of_ble_eq_true rfl) (Nat.le_of_ble_eq_true rfl) rfl rfl rfl (fun v2195 h2194 q2196 => ?_)
            obtain ⟨rfl, rg2188, kG2189, hg2190, K2191, Ag2192, P2193⟩ := q2196
            have ne_b2090_rg2188 : b2090 ≠ rg2188 := Nat.ne_of_lt (Nat.lt_of_lt_of_le f2186.lt hg2190)
            have ne_rg2110_rg2188 : rg2110 ≠ rg2188 := Nat.ne_of_lt (Nat.lt_of_lt_of_le f2187.lt hg2190)
            have ne_rg2176_rg2188 : rg2176 ≠ rg2188 := Nat.ne_of_lt (Nat.lt_of_lt_of_le Ag2180.lt hg2190)
            have ge_rg2188 : n0 ≤ rg2188 := Nat.le_trans (f2185.1 ▸ f2185.2.1) hg2190
            have ne_rg2188 := own_rc_ne P2181 hg2190
            have f2197 := f2185.keep K2191 (allS gR (allS gF (allS gS all0)))
            have f2198 := f2186.keep K2191
            have f2199 := f2187.keep K2191 (ninS ne_rg2110.1 (ninS ne_rg2110.2.1 (ninS ne_rg2110.2.2 nin0)))
            have f2200 := Ag2180.keep K2191 (ninS ne_rg2176.1 (ninS ne_rg2176.2.1 (ninS ne_rg2176.2.2 nin0)))
            show G w _ h2194 7 19 122 #[.val (.int p0), .val (.int p1), .val (.int p2), .val (.long p3), .second, .val (.long p4), .second, .val (.long p5), .second, .val (.int (2 : Int32)), .val (.int ((1 : Int32) + (p1 &&& (3 : Int32)))), .val (.int (1 : Int32)), .val (.int (0 : Int32)), .val (.int n), .val (.int dr), .val (.ref b2090), .unset] []
            refine g_iload C (pc' := 124) at_122 rfl rfl ?_
            refine g_iconst C (pc' := 125) (v := (1 : Int32)) at_124 (by decide) rfl ?_
            refine g_icN C (pc' := 128) at_125 rfl (says_f (cd := .lt) (h1)) rfl ?_
            rcases hd with rfl | rfl
            · refine g_iload C (pc' := 130) at_128 rfl rfl ?_
              refine g_ifY C (pc' := 140) at_130 rfl (by decide) (by decide) rfl ?_
              refine g_aload C (pc' := 142) at_140 rfl rfl rfl ?_
              refine g_iload C (pc' := 144) at_142 rfl rfl ?_
              refine g_virtual C (pc' := 147) (k' := 7) (n' := 19) (argsL := [(.int (1 : Int32))]) (rest := []) (wd hw 26 rfl) (wd hw 27 rfl) (nfSel (wd hw 29 rfl)) (wd hw 29 rfl) (wd hw 28 rfl) (wd hw 6 rfl) (wd hw 30 rfl) (by decide) at_144 pd_3 rfl rfl rfl f2198 (clear_1 l Z a0 hw n0 h2194 f2197 s_EMPTY H b2090 R F S kR kF kS (2 : Int32) ((1 : Int32) + (p1 &&& (3 : Int32))) (0 : Int32) (0 : Int32) (1 : Int32) (2 : Int32) (.ref rg2110) (.ref rg2188) P2193) (Nat.le_of_ble_eq_true rfl) (Nat.le_of_ble_eq_true rfl) (Nat.le_of_ble_eq_true rfl) (Nat.le_of_ble_eq_true rfl) rfl rfl rfl (fun v2204 h2203 q2205 => ?_)
              obtain ⟨rfl, K2201, P2202⟩ := q2205
              have f2206 := f2197.keep K2201 (allS gR (allS gF (allS gS all0)))
              have f2207 := f2198.keep K2201
              have f2208 := f2199.keep K2201 (ninS ne_rg2110.1 (ninS ne_rg2110.2.1 (ninS ne_rg2110.2.2 nin0)))
              have f2209 := f2200.keep K2201 (ninS ne_rg2176.1 (ninS ne_rg2176.2.1 (ninS ne_rg2176.2.2 nin0)))
              have f2210 := Ag2192.keep K2201 (ninS ne_rg2188.1 (ninS ne_rg2188.2.1 (ninS ne_rg2188.2.2 nin0)))
              show G w _ h2203 7 19 147 #[.val (.int p0), .val (.int p1), .val (.int p2), .val (.long p3), .second, .val (.long p4), .second, .val (.long p5), .second, .val (.int (2 : Int32)), .val (.int ((1 : Int32) + (p1 &&& (3 : Int32)))), .val (.int (1 : Int32)), .val (.int (0 : Int32)), .val (.int n), .val (.int (0 : Int32)), .val (.ref b2090), .unset] []
              refine G.more (k' := 7) (n' := 19) (Nat.le_of_ble_eq_true rfl) (Nat.le_of_ble_eq_true rfl) ?_
              exact JE _ f2206 n (0 : Int32) b2090 R F S kR kF kS rg2110 kG2111 ge_rg2110 ne_rg2110.1 ne_rg2110.2.1 ne_rg2110.2.2 f2208 P2202
            · refine g_iload C (pc' := 130) at_128 rfl rfl ?_
              refine g_ifN C (pc' := 133) at_130 rfl (by decide) rfl ?_
              refine g_aload C (pc' := 135) at_133 rfl rfl rfl ?_
              refine g_iload C (pc' := 137) at_135 rfl rfl ?_
              refine g_virtual C (pc' := 140) (k' := 7) (n' := 19) (argsL := [(.int (1 : Int32))]) (rest := []) (wd hw 73 rfl) (wd hw 74 rfl) (nfSel (wd hw 76 rfl)) (wd hw 76 rfl) (wd hw 75 rfl) (wd hw 6 rfl) (wd hw 77 rfl) (by decide) at_137 pd_3 rfl rfl rfl f2198 (rem2_1_2 l Z a0 hw n0 h2194 f2197 s_EMPTY H b2090 R F S kR kF kS ((1 : Int32) + (p1 &&& (3 : Int32))) (0 : Int32) (1 : Int32) (.ref rg2110) rg2188 kG2189 p4 (0 : Int64) (p4 ^^^ (-1 : Int64)) (0 : Int64) Ag2192 ne_rg2188.1 ne_rg2188.2.1 ne_rg2188.2.2 P2193) (Nat.le_of_ble_eq_true rfl) (Nat.le_of_ble_eq_true rfl) (Nat.le_of_ble_eq_true rfl) (Nat.le_of_ble_eq_true rfl) rfl rfl rfl (fun v2214 h2213 q2215 => ?_)
              obtain ⟨rfl, K2211, P2212⟩ := q2215
              have f2216 := f2197.keep K2211 (allS gR (allS gF (allS gS all0)))
              have f2217 := f2198.keep K2211
              have f2218 := f2199.keep K2211 (ninS ne_rg2110.1 (ninS ne_rg2110.2.1 (ninS ne_rg2110.2.2 nin0)))
              have f2219 := f2200.keep K2211 (ninS ne_rg2176.1 (ninS ne_rg2176.2.1 (ninS ne_rg2176.2.2 nin0)))
              have f2220 := Ag2192.keep K2211 (ninS ne_rg2188.1 (ninS ne_rg2188.2.1 (ninS ne_rg2188.2.2 nin0)))
              show G w _ h2213 7 19 140 #[.val (.int p0), .val (.int p1), .val (.int p2), .val (.long p3), .second, .val (.long p4), .second, .val (.long p5), .second, .val (.int (2 : Int32)), .val (.int ((1 : Int32) + (p1 &&& (3 : Int32)))), .val (.int (1 : Int32)), .val (.int (0 : Int32)), .val (.int n), .val (.int (1 : Int32)), .val (.ref b2090), .unset] []
              refine g_aload C (pc' := 142) at_140 rfl rfl rfl ?_
              refine g_iload C (pc' := 144) at_142 rfl rfl ?_
              refine g_virtual C (pc' := 147) (k' := 7) (n' := 19) (argsL := [(.int (1 : Int32))]) (rest := []) (wd hw 26 rfl) (wd hw 27 rfl) (nfSel (wd hw 29 rfl)) (wd hw 29 rfl) (wd hw 28 rfl) (wd hw 6 rfl) (wd hw 30 rfl) (by decide) at_144 pd_3 rfl rfl rfl f2217 (clear_1 l Z a0 hw n0 h2213 f2216 s_EMPTY H b2090 R F S kR kF kS (2 : Int32) ((1 : Int32) + (p1 &&& (3 : Int32))) (0 : Int32) (2 : Int32) (1 : Int32) (1 : Int32) (.ref rg2110) (.ref rg2188) P2212) (Nat.le_of_ble_eq_true rfl) (Nat.le_of_ble_eq_true rfl) (Nat.le_of_ble_eq_true rfl) (Nat.le_of_ble_eq_true rfl) rfl rfl rfl (fun v2224 h2223 q2225 => ?_)
              obtain ⟨rfl, K2221, P2222⟩ := q2225
              have f2226 := f2216.keep K2221 (allS gR (allS gF (allS gS all0)))
              have f2227 := f2217.keep K2221
              have f2228 := f2218.keep K2221 (ninS ne_rg2110.1 (ninS ne_rg2110.2.1 (ninS ne_rg2110.2.2 nin0)))
              have f2229 := f2219.keep K2221 (ninS ne_rg2176.1 (ninS ne_rg2176.2.1 (ninS ne_rg2176.2.2 nin0)))
              have f2230 := f2220.keep K2221 (ninS ne_rg2188.1 (ninS ne_rg2188.2.1 (ninS ne_rg2188.2.2 nin0)))
              show G w _ h2223 7 19 147 #[.val (.int p0), .val (.int p1), .val (.int p2), .val (.long p3), .second, .val (.long p4), .second, .val (.long p5), .second, .val (.int (2 : Int32)), .val (.int ((1 : Int32) + (p1 &&& (3 : Int32)))), .val (.int (1 : Int32)), .val (.int (0 : Int32)), .val (.int n), .val (.int (1 : Int32)), .val (.ref b2090), .unset] []
              refine G.more (k' := 7) (n' := 19) (Nat.le_of_ble_eq_true rfl) (Nat.le_of_ble_eq_true rfl) ?_
              exact JE _ f2226 n (1 : Int32) b2090 R F S kR kF kS rg2110 kG2111 ge_rg2110 ne_rg2110.1 ne_rg2110.2.1 ne_rg2110.2.2 f2228 P2222
      have J35 : ∀ (n : Int32) (hn : ¬ ((1 : Int32) + (p1 &&& (3 : Int32))) < n), G w LQ h 0 0 35 #[.val (.int p0), .val (.int p1), .val (.int p2), .val (.long p3), .second, .val (.long p4), .second, .val (.long p5), .second, .val (.int (2 : Int32)), .val (.int ((1 : Int32) + (p1 &&& (3 : Int32)))), .val (.int (1 : Int32)), .val (.int (0 : Int32)), .unset, .unset, .unset, .unset] [(.int n)] := by
        intro n hn
        refine g_istore C (pc' := 37) (Ls' := #[.val (.int p0), .val (.int p1), .val (.int p2), .val (.long p3), .second, .val (.long p4), .second, .val (.long p5), .second, .val (.int (2 : Int32)), .val (.int ((1 : Int32) + (p1 &&& (3 : Int32)))), .val (.int (1 : Int32)), .val (.int (0 : Int32)), .val (.int n), .unset, .unset, .unset]) at_35 rfl rfl rfl ?_
        refine g_iloadN C (pc' := 38) at_37 rfl rfl ?_
        refine g_iconst C (pc' := 39) (v := (3 : Int32)) at_38 (by decide) rfl ?_
        refine g_iushr C (pc' := 40) at_39 rfl rfl ?_
        refine g_iconst C (pc' := 41) (v := (1 : Int32)) at_40 (by decide) rfl ?_
        refine g_iand C (pc' := 42) at_41 rfl rfl ?_
        refine g_ifB C (pcT := 49) (pc' := 45) at_42 rfl (by decide) rfl rfl (fun hc2231 => ?_) (fun hc2231 => ?_)
        · replace hc2231 : (((p2.toUInt32 >>> ((3 : Int32) &&& 31).toUInt32).toInt32) &&& (1 : Int32)) = (0 : Int32) := hc2231
          refine g_iconst C (pc' := 50) (v := (0 : Int32)) at_49 (by decide) rfl ?_
          refine g_istore C (pc' := 52) (Ls' := #[.val (.int p0), .val (.int p1), .val (.int p2), .val (.long p3), .second, .val (.long p4), .second, .val (.long p5), .second, .val (.int (2 : Int32)), .val (.int ((1 : Int32) + (p1 &&& (3 : Int32)))), .val (.int (1 : Int32)), .val (.int (0 : Int32)), .val (.int n), .val (.int (0 : Int32)), .unset, .unset]) at_50 rfl rfl rfl ?_
          exact J52 _ _ hn (Or.inl rfl)
        · replace hc2231 : ¬ (((p2.toUInt32 >>> ((3 : Int32) &&& 31).toUInt32).toInt32) &&& (1 : Int32)) = (0 : Int32) := hc2231
          refine g_iconst C (pc' := 46) (v := (1 : Int32)) at_45 (by decide) rfl ?_
          refine g_goto C (pc' := 50) at_46 (by decide) rfl ?_
          refine g_istore C (pc' := 52) (Ls' := #[.val (.int p0), .val (.int p1), .val (.int p2), .val (.long p3), .second, .val (.long p4), .second, .val (.long p5), .second, .val (.int (2 : Int32)), .val (.int ((1 : Int32) + (p1 &&& (3 : Int32)))), .val (.int (1 : Int32)), .val (.int (0 : Int32)), .val (.int n), .val (.int (1 : Int32)), .unset, .unset]) at_50 rfl rfl rfl ?_
          exact J52 _ _ hn (Or.inr rfl)
      by_cases hq : ((1 : Int32) + (p1 &&& (3 : Int32))) < (((p2.toUInt32 >>> ((1 : Int32) &&& 31).toUInt32).toInt32) &&& (3 : Int32))
      · refine g_callS C (pc' := 35) (k' := 0) (n' := 0) (argsL := [(.int (((p2.toUInt32 >>> ((1 : Int32) &&& 31).toUInt32).toInt32) &&& (3 : Int32))), (.int ((1 : Int32) + (p1 &&& (3 : Int32))))]) (rest := []) (wd hw 0 rfl) (wd hw 1 rfl) (wd hw 2 rfl) (wd hw 3 rfl) (by decide) at_32 pd_0 rfl rfl rfl (minI_gt l Z a0 hw n0 h O s_EMPTY H (((p2.toUInt32 >>> ((1 : Int32) &&& 31).toUInt32).toInt32) &&& (3 : Int32)) ((1 : Int32) + (p1 &&& (3 : Int32))) hq) (Nat.le_of_ble_eq_true rfl) (Nat.le_of_ble_eq_true rfl) (Nat.le_of_ble_eq_true rfl) (Nat.le_of_ble_eq_true rfl) rfl rfl rfl (fun v2233 h2232 q2234 => ?_)
        obtain ⟨rfl, eh2232⟩ := q2234
        subst h2232
        show G w _ h 0 0 35 #[.val (.int p0), .val (.int p1), .val (.int p2), .val (.long p3), .second, .val (.long p4), .second, .val (.long p5), .second, .val (.int (2 : Int32)), .val (.int ((1 : Int32) + (p1 &&& (3 : Int32)))), .val (.int (1 : Int32)), .val (.int (0 : Int32)), .unset, .unset, .unset, .unset] [(.int ((1 : Int32) + (p1 &&& (3 : Int32))))]
        exact J35 _ own_irr
      · refine g_callS C (pc' := 35) (k' := 0) (n' := 0) (argsL := [(.int (((p2.toUInt32 >>> ((1 : Int32) &&& 31).toUInt32).toInt32) &&& (3 : Int32))), (.int ((1 : Int32) + (p1 &&& (3 : Int32))))]) (rest := []) (wd hw 0 rfl) (wd hw 1 rfl) (wd hw 2 rfl) (wd hw 3 rfl) (by decide) at_32 pd_0 rfl rfl rfl (minI_lt l Z a0 hw n0 h O s_EMPTY H (((p2.toUInt32 >>> ((1 : Int32) &&& 31).toUInt32).toInt32) &&& (3 : Int32)) ((1 : Int32) + (p1 &&& (3 : Int32))) hq) (Nat.le_of_ble_eq_true rfl) (Nat.le_of_ble_eq_true rfl) (Nat.le_of_ble_eq_true rfl) (Nat.le_of_ble_eq_true rfl) rfl rfl rfl (fun v2236 h2235 q2237 => ?_)
        obtain ⟨rfl, eh2235⟩ := q2237
        subst h2235
        show G w _ h 0 0 35 #[.val (.int p0), .val (.int p1), .val (.int p2), .val (.long p3), .second, .val (.long p4), .second, .val (.long p5), .second, .val (.int (2 : Int32)), .val (.int ((1 : Int32) + (p1 &&& (3 : Int32)))), .val (.int (1 : Int32)), .val (.int (0 : Int32)), .unset, .unset, .unset, .unset] [(.int (((p2.toUInt32 >>> ((1 : Int32) &&& 31).toUInt32).toInt32) &&& (3 : Int32)))]
        exact J35 _ hq
set_option maxRecDepth 65536 in
set_option maxHeartbeats 40000000 in
theorem comes_1 {Post : Tables → Env → Array Value → State → Outcome → State → Prop} (hpost : ∀ tb e args s v u, (limb_1_1.after args s (.returned v) u = true ∧ limb_1_2.after args s (.returned v) u = true ∧ True) → FrameEnd s (.returned v) u (Jvm.fieldLocs frame_1_writes args s ++ Jvm.arrayLocs frame_1_arrays args s ++ Jvm.staticLocs frame_1_statics s) 24 128 → Post tb e args s (.returned v) u) :
    ArmFor flags0 classFile x code maxLocals ret World_1 tables_1 room_1 Calls_1 rest_1 Pre_1 Post := by
  intro l hfl _ _ p e ha hc hk s m args below hf hA hF happ hP
  obtain ⟨hcalls, hrest, hpre⟩ := hP
  obtain ⟨-, -, -, hnamed, -, -, -, hat⟩ := (Spec.applies_iff hf).mp happ
  obtain ⟨hg, hn⟩ := and_e (Cond.before_iff.mp (show (Jvm.Cond.and given_1 narrow_1).before args s = true from hpre))
  obtain ⟨hga, hgb⟩ := and_e hg
  obtain ⟨hgba, hgbb⟩ := and_e hgb
  obtain ⟨hgbba, hgbbb⟩ := and_e hgbb
  obtain ⟨hgbbba, hgbbbb⟩ := and_e hgbbb
  obtain ⟨hgbbbba, hgbbbbb⟩ := and_e hgbbbb
  obtain ⟨hgbbbbba, hgbbbbbb⟩ := and_e hgbbbbb
  obtain ⟨w0, w1, w2, w3, w4, w5, rfl⟩ : ∃ w0 w1 w2 w3 w4 w5 : Value, args = #[w0, w1, w2, w3, w4, w5] := by
    have hs : args.size = 6 := by simpa [Cond.value, given_1] using hga
    obtain ⟨L⟩ := args
    match L, hs with
    | [w0, w1, w2, w3, w4, w5], _ => exact ⟨w0, w1, w2, w3, w4, w5, rfl⟩
  have hw := fun d (hd : d ∈ tables_1) => atoms_spec (ws := Jvm.Cond.code x code maxLocals ret :: tables_1) hat d (List.mem_cons_of_mem _ hd)
  have hfit : Fit s := fun {y c} hc i hi => by
    obtain ⟨ha, rfl⟩ := Array.getElem?_eq_some_iff.mp hc
    have q := List.all_eq_true.mp ((Array.all_eq_true_iff_forall_mem.mp hF) _ (Array.getElem_mem ha)) i (List.mem_range.mpr hi)
    simpa [Array.getElem?_eq_getElem hi] using q
  obtain ⟨i0, ei0⟩ := is_v hgba
  obtain rfl : w0 = (.int i0) := Option.some.inj ei0
  obtain ⟨i1, ei1⟩ := is_v hgbba
  obtain rfl : w1 = (.int i1) := Option.some.inj ei1
  obtain ⟨i2, ei2⟩ := is_v hgbbba
  obtain rfl : w2 = (.int i2) := Option.some.inj ei2
  obtain ⟨i3, ei3⟩ := isL_v hgbbbba
  obtain rfl : w3 = (.long i3) := Option.some.inj ei3
  obtain ⟨i4, ei4⟩ := isL_v hgbbbbba
  obtain rfl : w4 = (.long i4) := Option.some.inj ei4
  obtain ⟨i5, ei5⟩ := isL_v hgbbbbbb
  obtain rfl : w5 = (.long i5) := Option.some.inj ei5
  obtain ⟨hna, hnb⟩ := and_e hn
  obtain ⟨hnba, hnbb⟩ := and_e hnb
  obtain ⟨s_EMPTY, ev_EMPTY⟩ := exa_v hnba
  have S_EMPTY := Sta.start ev_EMPTY (Or.inr ⟨(wd hw 6 rfl), (wd hw 32 rfl)⟩)
  have E_EMPTY := Exa.start ev_EMPTY hnba
  have V_EMPTY := own_empty ev_EMPTY hna hnbb
  have H : En s s_EMPTY := ⟨S_EMPTY, E_EMPTY, V_EMPTY⟩
  obtain ⟨n, o, h1, h2, h3, _, L, rfl, ⟨rfl, N⟩, hq⟩ := rm0 l s _ hw s.heap.size s.heap (Old.start s) s_EMPTY H i0 i1 i2 i3 i4 i5  tables_1 p e ha hc hk s m _ below hf ((Spec.applies_iff_loose hf).mp happ).1 ⟨rfl, State.Warmed39.refl s, rfl⟩ trivial
  refine ⟨n, _, h1, h2, h3, hpost _ _ _ _ _ _ ⟨Cond.after_iff.mpr rfl, Cond.after_iff.mpr (eq_i res_at (Term.int_eval (1)) rfl), trivial⟩ ⟨hq.1, hq.2.1, (hq.2.2.sift fun y hy => Or.inr (N y hy)).mono (by decide) (by decide)⟩⟩
theorem main_1_1 : Claimed_1_1 := comes_1 fun _ _ _ _ _ _ h hF => ⟨h.1, hF⟩
theorem main_1_2 : Claimed_1_2 := comes_1 fun _ _ _ _ _ _ h hF => ⟨h.2.1, hF⟩
end Jvm.Pilot.@@N@@
namespace Jvm.Pilot.@@N@@
open Jvm Jvm.ClassFile Sem Op Lib Jvm.Free Jvm.Stand Jvm.Pilot.@@N@@.Jvm.D
/-! MADE BY PROGRAM (witnessworld.py) out of the Statement's table words and the real class files: 13 classes; the members and pool entries that the words name. The judged class is class 1, her method 1. -/
namespace start1
open Jvm.ClassFile
def u (s : String) : CpInfo := .utf8 (stringToUtf16 s)
/-- a pool by its gaps: so many unusable entries, then the entry; so many at the end -/
def gap : Nat → List CpInfo → List CpInfo
  | 0, r => r
  | n + 1, r => .unusable :: gap n r
def poolList (es : List (Nat × CpInfo)) (last : Nat) : List CpInfo := es.foldr (fun e r => gap e.1 (e.2 :: r)) (gap last [])
def pool (es : List (Nat × CpInfo)) (last : Nat) : Array CpInfo := ⟨poolList es last⟩
def fileOf (pool : Array CpInfo) (this : Nat) (attrs : Array Attribute := #[]) (ms : Array MethodInfo := #[]) (fl : Nat := 33) (sup : Nat := 0) (ifs : Array Nat := #[]) (fds : Array FieldInfo := #[]) : ClassFile where
  minorVersion := 0
  majorVersion := 65
  constantPool := pool
  accessFlags := fl
  thisClass := this
  superClass := sup
  interfaces := ifs
  fields := fds
  methods := ms
  attributes := attrs
def plain (name : String) (sup : Option ClassId) : Class where
  name := name
  kind := .ordinary
  loader := none
  accessFlags := 33
  super := sup
  interfaces := #[]
  cf := none
  fields := #[]
  methods := #[]
  instanceTypes := #[]
  staticTypes := #[]
  resolved := #[]
  callSites := []
  init := .initialized
  statics := none
  mirror := none

def pool0 : Array CpInfo := pool [(5, u "<init>"), (0, u "()V"), (1, .class_ 10), (1, u "java/lang/Object")] 113

def k0c0 : Code := { maxStack := 0, maxLocals := 1, code := object_method_1_code, exceptionTable := #[], attributes := #[] }
def k0m0 : Method := { name := "<init>", desc := "()V", sig := { parameters := [], returnType := none }, accessFlags := 1, code := some k0c0 }
/-- java/lang/Object -/
def k0 : Class := { plain "java/lang/Object" none with
  accessFlags := 33
  interfaces := #[]
  cf := some (fileOf pool0 8 #[] #[{ accessFlags := 1, nameIndex := 5, descriptorIndex := 6, attributes := #[] }] 33 0 #[] #[])
  fields := #[]
  methods := #[k0m0]
  instanceTypes := #[]
  staticTypes := #[]
  resolved := Array.replicate 124 none
  statics := none }

def pool1 : Array CpInfo := pool [(2, .class_ 4), (1, u "java/lang/Object"), (0, u "<init>"), (0, u "()V"), (0, .methodref 8 9), (0, .class_ 10), (0, .nameAndType 11 12), (0, u "java/lang/Math"), (0, u "min"), (0, u "(II)I"), (0, .class_ 14), (0, u "com/example/request_throttle/requestthrottle/RingColumn"), (0, .methodref 13 16), (0, .nameAndType 5 17), (0, u "(III)V"), (0, .methodref 13 19), (0, .nameAndType 20 21), (0, u "clear"), (0, u "(I)V"), (0, .methodref 13 23), (0, .nameAndType 24 25), (0, u "add"), (0, u "(IJ)V"), (0, .long 18446744073709551615), (1, .methodref 13 29), (0, .nameAndType 30 21), (0, u "removeFirst"), (0, .methodref 13 32), (0, .nameAndType 33 34), (0, u "size"), (0, u "(I)I"), (0, .methodref 13 36), (0, .nameAndType 37 38), (0, u "get"), (0, u "(III)J"), (0, .class_ 40), (0, u "com/example/request_throttle/requestthrottle/RingColumnClearPinLaw"), (2, u "law"), (0, u "(IIIJJJ)Z")] 3

def k1m0 : Method := { name := "<init>", desc := "()V", sig := { parameters := [], returnType := none }, accessFlags := 1, code := none }
def k1c1 : Code := { maxStack := 6, maxLocals := 17, code := code, exceptionTable := #[], attributes := #[] }
def k1m1 : Method := { name := "law", desc := "(IIIJJJ)Z", sig := { parameters := [.int, .int, .int, .long, .long, .long], returnType := some .boolean }, accessFlags := 9, code := some k1c1 }
/-- com/example/request_throttle/requestthrottle/RingColumnClearPinLaw -/
def k1 : Class := { plain "com/example/request_throttle/requestthrottle/RingColumnClearPinLaw" (some 0) with
  accessFlags := 49
  interfaces := #[]
  cf := some (fileOf pool1 39 #[] #[{ accessFlags := 1, nameIndex := 5, descriptorIndex := 6, attributes := #[] }, { accessFlags := 9, nameIndex := 43, descriptorIndex := 44, attributes := #[] }] 49 2 #[] #[])
  fields := #[]
  methods := #[k1m0, k1m1]
  instanceTypes := #[]
  staticTypes := #[]
  resolved := Array.replicate 48 none
  statics := none }

def pool2 : Array CpInfo := pool [(1, .class_ 2), (0, u "java/lang/Math"), (1, .class_ 6), (1, u "java/lang/Object"), (0, u "<init>"), (0, u "()V"), (89, .class_ 100), (1, u "java/lang/Math$RandomNumberGeneratorHolder"), (20, u "(JJ)J"), (50, u "negativeZeroFloatBits"), (0, u "J"), (2, u "negativeZeroDoubleBits"), (21, u "max"), (2, u "min"), (43, u "$assertionsDisabled"), (0, u "Z"), (88, u "(II)I"), (2, u "twoToTheDoubleScaleDown"), (0, u "D"), (4, u "twoToTheDoubleScaleUp"), (9, u "E"), (3, u "PI"), (2, u "TAU"), (2, u "DEGREES_TO_RADIANS"), (0, u "RADIANS_TO_DEGREES"), (39, u "toIntExact"), (0, u "(J)I")] 53

def k2m0 : Method := { name := "<init>", desc := "()V", sig := { parameters := [], returnType := none }, accessFlags := 2, code := none }
def k2c1 : Code := { maxStack := 4, maxLocals := 2, code := jdk_29_method_43_code, exceptionTable := #[], attributes := #[] }
def k2m1 : Method := { name := "toIntExact", desc := "(J)I", sig := { parameters := [.long], returnType := some .int }, accessFlags := 9, code := some k2c1 }
def k2c2 : Code := { maxStack := 4, maxLocals := 4, code := jdk_29_method_66_code, exceptionTable := #[], attributes := #[] }
def k2m2 : Method := { name := "max", desc := "(JJ)J", sig := { parameters := [.long, .long], returnType := some .long }, accessFlags := 9, code := some k2c2 }
def k2c3 : Code := { maxStack := 2, maxLocals := 2, code := jdk_29_method_69_code, exceptionTable := #[], attributes := #[] }
def k2m3 : Method := { name := "min", desc := "(II)I", sig := { parameters := [.int, .int], returnType := some .int }, accessFlags := 9, code := some k2c3 }
def k2c4 : Code := { maxStack := 4, maxLocals := 4, code := jdk_29_method_70_code, exceptionTable := #[], attributes := #[] }
def k2m4 : Method := { name := "min", desc := "(JJ)J", sig := { parameters := [.long, .long], returnType := some .long }, accessFlags := 9, code := some k2c4 }
/-- java/lang/Math -/
def k2 : Class := { plain "java/lang/Math" (some 0) with
  accessFlags := 49
  interfaces := #[]
  cf := some (fileOf pool2 1 #[.nestMembers #[98]] #[{ accessFlags := 2, nameIndex := 7, descriptorIndex := 8, attributes := #[] }, { accessFlags := 9, nameIndex := 405, descriptorIndex := 406, attributes := #[] }, { accessFlags := 9, nameIndex := 198, descriptorIndex := 121, attributes := #[] }, { accessFlags := 9, nameIndex := 201, descriptorIndex := 335, attributes := #[] }, { accessFlags := 9, nameIndex := 201, descriptorIndex := 121, attributes := #[] }] 49 4 #[] #[{ accessFlags := 25, nameIndex := 354, descriptorIndex := 339, attributes := #[] }, { accessFlags := 25, nameIndex := 358, descriptorIndex := 339, attributes := #[] }, { accessFlags := 25, nameIndex := 361, descriptorIndex := 339, attributes := #[] }, { accessFlags := 26, nameIndex := 364, descriptorIndex := 339, attributes := #[] }, { accessFlags := 26, nameIndex := 365, descriptorIndex := 339, attributes := #[] }, { accessFlags := 26, nameIndex := 172, descriptorIndex := 173, attributes := #[] }, { accessFlags := 26, nameIndex := 176, descriptorIndex := 173, attributes := #[] }, { accessFlags := 8, nameIndex := 344, descriptorIndex := 339, attributes := #[] }, { accessFlags := 8, nameIndex := 338, descriptorIndex := 339, attributes := #[] }, { accessFlags := 4120, nameIndex := 245, descriptorIndex := 246, attributes := #[] }])
  fields := #[{ name := "E", type := .double, accessFlags := 25, slot := 0, constantValue := 0 }, { name := "PI", type := .double, accessFlags := 25, slot := 1, constantValue := 0 }, { name := "TAU", type := .double, accessFlags := 25, slot := 2, constantValue := 0 }, { name := "DEGREES_TO_RADIANS", type := .double, accessFlags := 26, slot := 3, constantValue := 0 }, { name := "RADIANS_TO_DEGREES", type := .double, accessFlags := 26, slot := 4, constantValue := 0 }, { name := "negativeZeroFloatBits", type := .long, accessFlags := 26, slot := 5, constantValue := 0 }, { name := "negativeZeroDoubleBits", type := .long, accessFlags := 26, slot := 6, constantValue := 0 }, { name := "twoToTheDoubleScaleUp", type := .double, accessFlags := 8, slot := 7, constantValue := 0 }, { name := "twoToTheDoubleScaleDown", type := .double, accessFlags := 8, slot := 8, constantValue := 0 }, { name := "$assertionsDisabled", type := .boolean, accessFlags := 4120, slot := 9, constantValue := 0 }]
  methods := #[k2m0, k2m1, k2m2, k2m3, k2m4]
  instanceTypes := #[]
  staticTypes := #[.double, .double, .double, .double, .double, .long, .long, .double, .double, .boolean]
  resolved := Array.replicate 460 none
  statics := none }

def pool3 : Array CpInfo := pool [(1, .methodref 2 3), (0, .class_ 4), (0, .nameAndType 5 6), (0, u "java/lang/Object"), (0, u "<init>"), (0, u "()V"), (0, .fieldref 8 9), (0, .class_ 10), (0, .nameAndType 11 12), (0, u "com/example/request_throttle/requestthrottle/RingColumn"), (0, u "_width"), (0, u "I"), (0, .fieldref 8 14), (0, .nameAndType 15 12), (0, u "_most"), (0, .class_ 17), (0, u "[J"), (0, .fieldref 8 19), (0, .nameAndType 20 21), (0, u "_rings"), (0, u "[[J"), (0, .fieldref 8 23), (0, .nameAndType 24 25), (0, u "_first"), (0, u "[I"), (0, .fieldref 8 27), (0, .nameAndType 28 25), (0, u "_size"), (0, .fieldref 8 30), (0, .nameAndType 31 17), (0, u "EMPTY"), (0, .methodref 8 33), (0, .nameAndType 34 35), (0, u "start"), (0, u "([JII)I"), (0, .methodref 8 37), (0, .nameAndType 38 39), (0, u "grow"), (0, u "(I)[J"), (2, u "(III)V"), (0, .long 2), (1, .methodref 46 47), (0, .class_ 48), (0, .nameAndType 49 50), (0, u "java/lang/Math"), (0, u "max"), (0, u "(JJ)J"), (0, .methodref 46 52), (0, .nameAndType 53 50), (0, u "min"), (0, .methodref 46 55), (0, .nameAndType 56 57), (0, u "toIntExact"), (0, u "(J)I"), (0, .methodref 59 60), (0, .class_ 61), (0, .nameAndType 62 63), (0, u "java/lang/System"), (0, u "arraycopy"), (0, u "(Ljava/lang/Object;ILjava/lang/Object;II)V"), (2, u "clear"), (0, u "(I)V"), (0, u "size"), (0, u "(I)I"), (0, u "get"), (0, u "(III)J"), (2, u "add"), (0, u "(IJ)V"), (1, u "removeFirst")] 6

def k3c0 : Code := { maxStack := 2, maxLocals := 4, code := prog_17_method_1_code, exceptionTable := #[], attributes := #[] }
def k3m0 : Method := { name := "<init>", desc := "(III)V", sig := { parameters := [.int, .int, .int], returnType := none }, accessFlags := 0, code := some k3c0 }
def k3c1 : Code := { maxStack := 3, maxLocals := 2, code := prog_17_method_2_code, exceptionTable := #[], attributes := #[] }
def k3m1 : Method := { name := "clear", desc := "(I)V", sig := { parameters := [.int], returnType := none }, accessFlags := 0, code := some k3c1 }
def k3c2 : Code := { maxStack := 2, maxLocals := 2, code := prog_17_method_3_code, exceptionTable := #[], attributes := #[] }
def k3m2 : Method := { name := "size", desc := "(I)I", sig := { parameters := [.int], returnType := some .int }, accessFlags := 0, code := some k3c2 }
def k3c3 : Code := { maxStack := 5, maxLocals := 5, code := prog_17_method_4_code, exceptionTable := #[], attributes := #[] }
def k3m3 : Method := { name := "get", desc := "(III)J", sig := { parameters := [.int, .int, .int], returnType := some .long }, accessFlags := 0, code := some k3c3 }
def k3c4 : Code := { maxStack := 6, maxLocals := 5, code := prog_17_method_6_code, exceptionTable := #[], attributes := #[] }
def k3m4 : Method := { name := "add", desc := "(IJ)V", sig := { parameters := [.int, .long], returnType := none }, accessFlags := 0, code := some k3c4 }
def k3c5 : Code := { maxStack := 5, maxLocals := 3, code := prog_17_method_7_code, exceptionTable := #[], attributes := #[] }
def k3m5 : Method := { name := "removeFirst", desc := "(I)V", sig := { parameters := [.int], returnType := none }, accessFlags := 0, code := some k3c5 }
def k3c6 : Code := { maxStack := 3, maxLocals := 5, code := prog_17_method_9_code, exceptionTable := #[], attributes := #[] }
def k3m6 : Method := { name := "start", desc := "([JII)I", sig := { parameters := [(.array .long), .int, .int], returnType := some .int }, accessFlags := 2, code := some k3c6 }
def k3c7 : Code := { maxStack := 6, maxLocals := 7, code := prog_17_method_10_code, exceptionTable := #[], attributes := #[] }
def k3m7 : Method := { name := "grow", desc := "(I)[J", sig := { parameters := [.int], returnType := some (.array .long) }, accessFlags := 2, code := some k3c7 }
/-- com/example/request_throttle/requestthrottle/RingColumn -/
def k3 : Class := { plain "com/example/request_throttle/requestthrottle/RingColumn" (some 0) with
  accessFlags := 32
  interfaces := #[]
  cf := some (fileOf pool3 8 #[] #[{ accessFlags := 0, nameIndex := 5, descriptorIndex := 42, attributes := #[] }, { accessFlags := 0, nameIndex := 66, descriptorIndex := 67, attributes := #[] }, { accessFlags := 0, nameIndex := 68, descriptorIndex := 69, attributes := #[] }, { accessFlags := 0, nameIndex := 70, descriptorIndex := 71, attributes := #[] }, { accessFlags := 0, nameIndex := 74, descriptorIndex := 75, attributes := #[] }, { accessFlags := 0, nameIndex := 77, descriptorIndex := 67, attributes := #[] }, { accessFlags := 2, nameIndex := 34, descriptorIndex := 35, attributes := #[] }, { accessFlags := 2, nameIndex := 38, descriptorIndex := 39, attributes := #[] }] 32 2 #[] #[{ accessFlags := 26, nameIndex := 31, descriptorIndex := 17, attributes := #[] }, { accessFlags := 18, nameIndex := 11, descriptorIndex := 12, attributes := #[] }, { accessFlags := 18, nameIndex := 15, descriptorIndex := 12, attributes := #[] }, { accessFlags := 18, nameIndex := 20, descriptorIndex := 21, attributes := #[] }, { accessFlags := 18, nameIndex := 24, descriptorIndex := 25, attributes := #[] }, { accessFlags := 18, nameIndex := 28, descriptorIndex := 25, attributes := #[] }])
  fields := #[{ name := "EMPTY", type := (.array .long), accessFlags := 26, slot := 0, constantValue := 0 }, { name := "_width", type := .int, accessFlags := 18, slot := 0, constantValue := 0 }, { name := "_most", type := .int, accessFlags := 18, slot := 1, constantValue := 0 }, { name := "_rings", type := (.array (.array .long)), accessFlags := 18, slot := 2, constantValue := 0 }, { name := "_first", type := (.array .int), accessFlags := 18, slot := 3, constantValue := 0 }, { name := "_size", type := (.array .int), accessFlags := 18, slot := 4, constantValue := 0 }]
  methods := #[k3m0, k3m1, k3m2, k3m3, k3m4, k3m5, k3m6, k3m7]
  instanceTypes := #[.int, .int, (.array (.array .long)), (.array .int), (.array .int)]
  staticTypes := #[(.array .long)]
  resolved := Array.replicate 84 none
  statics := some 0 }

def pool4 : Array CpInfo := pool [(2, .class_ 4), (1, u "java/lang/Object"), (0, u "<init>"), (0, u "()V"), (1, .class_ 10), (1, u "java/lang/System"), (0, u "allowSecurityManager"), (0, u "I"), (16, u "cons"), (0, u "Ljava/io/Console;"), (77, .class_ 110), (1, u "java/lang/System$CallersHolder"), (43, u "initialErrStream"), (0, u "Ljava/io/PrintStream;"), (19, u "security"), (0, u "Ljava/lang/SecurityManager;"), (31, .class_ 209), (0, u "java/lang/System$1"), (7, u "props"), (0, u "Ljava/util/Properties;"), (2, u "lineSeparator"), (0, u "Ljava/lang/String;"), (96, .class_ 321), (1, u "java/lang/System$LoggerFinder"), (5, .class_ 328), (0, u "java/lang/System$Logger"), (67, u "err"), (2, u "out"), (91, u "notSupportedJnuEncoding"), (15, u "in"), (17, u "initialIn"), (0, u "Ljava/io/InputStream;"), (35, u "bootLayer"), (0, u "Ljava/lang/ModuleLayer;"), (99, .class_ 664), (0, u "java/lang/System$2"), (9, u "NEVER"), (2, u "MAYBE"), (49, u "arraycopy"), (0, u "(Ljava/lang/Object;ILjava/lang/Object;II)V"), (72, .class_ 802), (0, u "java/lang/System$Logger$Level")] 31

def k4m0 : Method := { name := "<init>", desc := "()V", sig := { parameters := [], returnType := none }, accessFlags := 2, code := none }
def k4m1 : Method := { name := "arraycopy", desc := "(Ljava/lang/Object;ILjava/lang/Object;II)V", sig := { parameters := [(.object "java/lang/Object"), .int, (.object "java/lang/Object"), .int, .int], returnType := none }, accessFlags := 265, code := none }
/-- java/lang/System -/
def k4 : Class := { plain "java/lang/System" (some 0) with
  accessFlags := 49
  interfaces := #[]
  cf := some (fileOf pool4 8 #[.nestMembers #[319, 327, 801, 108, 663, 208]] #[{ accessFlags := 2, nameIndex := 5, descriptorIndex := 6, attributes := #[] }, { accessFlags := 265, nameIndex := 727, descriptorIndex := 728, attributes := #[] }] 49 2 #[] #[{ accessFlags := 25, nameIndex := 507, descriptorIndex := 526, attributes := #[] }, { accessFlags := 25, nameIndex := 399, descriptorIndex := 155, attributes := #[] }, { accessFlags := 25, nameIndex := 396, descriptorIndex := 155, attributes := #[] }, { accessFlags := 10, nameIndex := 525, descriptorIndex := 526, attributes := #[] }, { accessFlags := 26, nameIndex := 674, descriptorIndex := 12, attributes := #[] }, { accessFlags := 26, nameIndex := 677, descriptorIndex := 12, attributes := #[] }, { accessFlags := 10, nameIndex := 11, descriptorIndex := 12, attributes := #[] }, { accessFlags := 74, nameIndex := 175, descriptorIndex := 176, attributes := #[] }, { accessFlags := 10, nameIndex := 491, descriptorIndex := 222, attributes := #[] }, { accessFlags := 74, nameIndex := 29, descriptorIndex := 30, attributes := #[] }, { accessFlags := 74, nameIndex := 154, descriptorIndex := 155, attributes := #[] }, { accessFlags := 10, nameIndex := 217, descriptorIndex := 218, attributes := #[] }, { accessFlags := 10, nameIndex := 221, descriptorIndex := 222, attributes := #[] }, { accessFlags := 8, nameIndex := 562, descriptorIndex := 563, attributes := #[] }])
  fields := #[{ name := "in", type := (.object "java/io/InputStream"), accessFlags := 25, slot := 0, constantValue := 0 }, { name := "out", type := (.object "java/io/PrintStream"), accessFlags := 25, slot := 1, constantValue := 0 }, { name := "err", type := (.object "java/io/PrintStream"), accessFlags := 25, slot := 2, constantValue := 0 }, { name := "initialIn", type := (.object "java/io/InputStream"), accessFlags := 10, slot := 3, constantValue := 0 }, { name := "NEVER", type := .int, accessFlags := 26, slot := 4, constantValue := 0 }, { name := "MAYBE", type := .int, accessFlags := 26, slot := 5, constantValue := 0 }, { name := "allowSecurityManager", type := .int, accessFlags := 10, slot := 6, constantValue := 0 }, { name := "security", type := (.object "java/lang/SecurityManager"), accessFlags := 74, slot := 7, constantValue := 0 }, { name := "notSupportedJnuEncoding", type := (.object "java/lang/String"), accessFlags := 10, slot := 8, constantValue := 0 }, { name := "cons", type := (.object "java/io/Console"), accessFlags := 74, slot := 9, constantValue := 0 }, { name := "initialErrStream", type := (.object "java/io/PrintStream"), accessFlags := 74, slot := 10, constantValue := 0 }, { name := "props", type := (.object "java/util/Properties"), accessFlags := 10, slot := 11, constantValue := 0 }, { name := "lineSeparator", type := (.object "java/lang/String"), accessFlags := 10, slot := 12, constantValue := 0 }, { name := "bootLayer", type := (.object "java/lang/ModuleLayer"), accessFlags := 8, slot := 13, constantValue := 0 }]
  methods := #[k4m0, k4m1]
  instanceTypes := #[]
  staticTypes := #[(.object "java/io/InputStream"), (.object "java/io/PrintStream"), (.object "java/io/PrintStream"), (.object "java/io/InputStream"), .int, .int, .int, (.object "java/lang/SecurityManager"), (.object "java/lang/String"), (.object "java/io/Console"), (.object "java/io/PrintStream"), (.object "java/util/Properties"), (.object "java/lang/String"), (.object "java/lang/ModuleLayer")]
  resolved := Array.replicate 834 none
  statics := none }

def pool5 : Array CpInfo := pool [(1, u "java/lang/Cloneable"), (0, .class_ 1), (0, u "java/lang/Object"), (0, .class_ 3)] 3

/-- java/lang/Cloneable -/
def k5 : Class := { plain "java/lang/Cloneable" (some 0) with
  accessFlags := 1537
  interfaces := #[]
  cf := some (fileOf pool5 2 #[] #[] 1537 4 #[] #[])
  fields := #[]
  methods := #[]
  instanceTypes := #[]
  staticTypes := #[]
  resolved := Array.replicate 8 none
  statics := none }

def pool6 : Array CpInfo := pool [(1, u "java/io/Serializable"), (0, .class_ 1), (0, u "java/lang/Object"), (0, .class_ 3)] 3

/-- java/io/Serializable -/
def k6 : Class := { plain "java/io/Serializable" (some 0) with
  accessFlags := 1537
  interfaces := #[]
  cf := some (fileOf pool6 2 #[] #[] 1537 4 #[] #[])
  fields := #[]
  methods := #[]
  instanceTypes := #[]
  staticTypes := #[]
  resolved := Array.replicate 8 none
  statics := none }

/-- the primitive byte -/
def k7 : Class := { plain "byte" none with kind := .primitive 'B', accessFlags := 0x411 }
/-- [B -/
def k8 : Class := { plain "[B" (some 0) with kind := .array 7 .byte, interfaces := #[5, 6], accessFlags := 1041 }

/-- the primitive int -/
def k9 : Class := { plain "int" none with kind := .primitive 'I', accessFlags := 0x411 }
/-- [I -/
def k10 : Class := { plain "[I" (some 0) with kind := .array 9 .int, interfaces := #[5, 6], accessFlags := 1041 }

/-- the primitive long -/
def k11 : Class := { plain "long" none with kind := .primitive 'J', accessFlags := 0x411 }
/-- [J -/
def k12 : Class := { plain "[J" (some 0) with kind := .array 11 .long, interfaces := #[5, 6], accessFlags := 1041 }

/-- [[J -/
def k13 : Class := { plain "[[J" (some 0) with kind := .array 12 (.array .long), interfaces := #[5, 6], accessFlags := 1041 }
def heap : Heap := #[{ cls := 3, slots := #[.ref 1], vm := .statics 3 },
  { cls := 12, slots := #[], vm := .none }]
def classes : Array Class := #[k0, k1, k2, k3, k4, k5, k6, k7, k8, k9, k10, k11, k12, k13]
def interned : List (Array UInt16 × Addr) := []
def slotsUsed : Nat := 1
def theMethod : MethodId := ⟨1, 1⟩
def args0 : Array Value := #[.int 2, .int 5, .int 1, .long 1, .long 2, .long 3]
def aboutOver (below : List Frame) : State where
  vm := { classes := classes, interned := interned.toArray }
  heap := heap
  slotsUsed := slotsUsed
  threads := #[{ frames := .invoking theMethod args0 :: below }]
def below0 : List Frame := [.native { method := ⟨0, 0⟩, args := #[] }]
def about1 : State := aboutOver below0
def p0 : Program := .bare "" "" ""
def e0 : Env := launch0.env 0 0 0
theorem w_frames : about1.frames = Frame.invoking theMethod args0 :: below0 := rfl
set_option maxRecDepth 65536 in
theorem w_args : argsFit about1.vm theMethod args0 = true := by decide +kernel
set_option maxRecDepth 65536 in
theorem w_heap : heapFits about1 = true := by decide +kernel
set_option maxRecDepth 65536 in
theorem w_runnable : about1.curStatus? = some .runnable := by decide +kernel
set_option maxRecDepth 65536 in
theorem w_alone : about1.alone = true := by decide +kernel
set_option maxRecDepth 65536 in
theorem w_named : about1.methodNamed? x = some theMethod := by decide +kernel
set_option maxRecDepth 65536 in
theorem w_hears : about1.hears theMethod below0 = true := by decide +kernel
set_option maxRecDepth 65536 in
theorem w_ripe : about1.ripe theMethod args0 below0 = true := by decide +kernel
theorem w_running : about1.status = .running := rfl
set_option maxRecDepth 65536 in
theorem w_room : about1.hasRoom e0.platform room_1 = true :=
  launch0.hasRoom_least _ room_1 (by decide +kernel) (by decide +kernel) (by decide +kernel) (by decide +kernel) (by decide +kernel) (by decide +kernel)
theorem allAtoms_all (ts : List Jvm.Cond) (a : Array Jvm.Value) (st : Jvm.State) : (allAtoms ts).before a st = ts.all (fun c => c.before a st) := by
  induction ts with
  | nil => rfl
  | cons c t ih =>
    show (Jvm.Cond.and c (allAtoms t)).before a st = _
    rw [Jvm.Cond.before_and, ih, List.all_cons]
def words1 : List Jvm.Cond := Jvm.Cond.code x code maxLocals ret :: tables_1
/-- a 'code' word, met by the world's own term for the bytes: nothing is compared byte by byte -/
theorem code_word {y : MethodName} {bytes : ByteArray} {mx : Nat} {rt : Option FieldType} {a : Array Value} {s : State} {m : MethodId} {meth : Method} {c : Code} (h1 : s.methodNamed? y = some m) (h2 : s.vm.method? m = some meth) (h3 : meth.code = some c) (h4 : c.code = bytes)
    (h5 : (c.maxLocals == mx && c.exceptionTable.isEmpty && decide (c.maxStack ≤ mostOperands) && decide (meth.sig.returnType = rt) && !meth.locks && decide (parseMethodDescriptor y.desc = some meth.sig)) = true) : (Jvm.Cond.code y bytes mx rt).before a s = true := by
  simp only [Bool.and_eq_true, beq_iff_eq, Bool.not_eq_true', decide_eq_true_eq] at h5
  obtain ⟨⟨⟨⟨⟨g1, g2⟩, g3⟩, g4⟩, g5⟩, g6⟩ := h5
  simp [Cond.before, Cond.holds, Cond.value, h1, h2, h3, h4, g1, g2, g3, g4, g5, g6]
def isCode : Jvm.Cond → Bool
  | .code _ _ _ _ => true
  | _ => false
theorem all_split {L : List Jvm.Cond} {P : Jvm.Cond → Bool} (h1 : L.all (fun c => isCode c || P c) = true) (h2 : ∀ c ∈ L.filter isCode, P c = true) : L.all P = true := by
  refine List.all_eq_true.mpr fun c hc => ?_
  have h := List.all_eq_true.mp h1 c hc
  rcases Bool.eq_false_or_eq_true (isCode c) with hi | hi
  · exact h2 c (List.mem_filter.mpr ⟨hc, hi⟩)
  · simpa [hi] using h
set_option maxRecDepth 65536 in
theorem w_c0 : (Jvm.Cond.code x code maxLocals ret).before args0 about1 = true := code_word (m := ⟨1, 1⟩) (meth := k1m1) (c := k1c1) (by decide +kernel) rfl rfl rfl (by decide +kernel)
set_option maxRecDepth 65536 in
theorem w_c1 : (Jvm.Cond.code ({ cls := "java/lang/Math", name := "min", desc := "(II)I" } : Jvm.MethodName) jdk_29_method_69_code (2 : Nat) (Option.some Jvm.ClassFile.FieldType.int)).before args0 about1 = true := code_word (m := ⟨2, 3⟩) (meth := k2m3) (c := k2c3) (by decide +kernel) rfl rfl rfl (by decide +kernel)
set_option maxRecDepth 65536 in
theorem w_c2 : (Jvm.Cond.code ({ cls := "com/example/request_throttle/requestthrottle/RingColumn", name := "<init>", desc := "(III)V" } : Jvm.MethodName) prog_17_method_1_code (4 : Nat) (Option.none : Option Jvm.ClassFile.FieldType)).before args0 about1 = true := code_word (m := ⟨3, 0⟩) (meth := k3m0) (c := k3c0) (by decide +kernel) rfl rfl rfl (by decide +kernel)
set_option maxRecDepth 65536 in
theorem w_c3 : (Jvm.Cond.code ({ cls := "java/lang/Object", name := "<init>", desc := "()V" } : Jvm.MethodName) object_method_1_code (1 : Nat) (Option.none : Option Jvm.ClassFile.FieldType)).before args0 about1 = true := code_word (m := ⟨0, 0⟩) (meth := k0m0) (c := k0c0) (by decide +kernel) rfl rfl rfl (by decide +kernel)
set_option maxRecDepth 65536 in
theorem w_c4 : (Jvm.Cond.code ({ cls := "com/example/request_throttle/requestthrottle/RingColumn", name := "clear", desc := "(I)V" } : Jvm.MethodName) prog_17_method_2_code (2 : Nat) (Option.none : Option Jvm.ClassFile.FieldType)).before args0 about1 = true := code_word (m := ⟨3, 1⟩) (meth := k3m1) (c := k3c1) (by decide +kernel) rfl rfl rfl (by decide +kernel)
set_option maxRecDepth 65536 in
theorem w_c5 : (Jvm.Cond.code ({ cls := "com/example/request_throttle/requestthrottle/RingColumn", name := "add", desc := "(IJ)V" } : Jvm.MethodName) prog_17_method_6_code (5 : Nat) (Option.none : Option Jvm.ClassFile.FieldType)).before args0 about1 = true := code_word (m := ⟨3, 4⟩) (meth := k3m4) (c := k3c4) (by decide +kernel) rfl rfl rfl (by decide +kernel)
set_option maxRecDepth 65536 in
theorem w_c6 : (Jvm.Cond.code ({ cls := "com/example/request_throttle/requestthrottle/RingColumn", name := "grow", desc := "(I)[J" } : Jvm.MethodName) prog_17_method_10_code (7 : Nat) (Option.some (Jvm.ClassFile.FieldType.array Jvm.ClassFile.FieldType.long))).before args0 about1 = true := code_word (m := ⟨3, 7⟩) (meth := k3m7) (c := k3c7) (by decide +kernel) rfl rfl rfl (by decide +kernel)
set_option maxRecDepth 65536 in
theorem w_c7 : (Jvm.Cond.code ({ cls := "java/lang/Math", name := "max", desc := "(JJ)J" } : Jvm.MethodName) jdk_29_method_66_code (4 : Nat) (Option.some Jvm.ClassFile.FieldType.long)).before args0 about1 = true := code_word (m := ⟨2, 2⟩) (meth := k2m2) (c := k2c2) (by decide +kernel) rfl rfl rfl (by decide +kernel)
set_option maxRecDepth 65536 in
theorem w_c8 : (Jvm.Cond.code ({ cls := "java/lang/Math", name := "min", desc := "(JJ)J" } : Jvm.MethodName) jdk_29_method_70_code (4 : Nat) (Option.some Jvm.ClassFile.FieldType.long)).before args0 about1 = true := code_word (m := ⟨2, 4⟩) (meth := k2m4) (c := k2c4) (by decide +kernel) rfl rfl rfl (by decide +kernel)
set_option maxRecDepth 65536 in
theorem w_c9 : (Jvm.Cond.code ({ cls := "java/lang/Math", name := "toIntExact", desc := "(J)I" } : Jvm.MethodName) jdk_29_method_43_code (2 : Nat) (Option.some Jvm.ClassFile.FieldType.int)).before args0 about1 = true := code_word (m := ⟨2, 1⟩) (meth := k2m1) (c := k2c1) (by decide +kernel) rfl rfl rfl (by decide +kernel)
set_option maxRecDepth 65536 in
theorem w_c10 : (Jvm.Cond.code ({ cls := "com/example/request_throttle/requestthrottle/RingColumn", name := "start", desc := "([JII)I" } : Jvm.MethodName) prog_17_method_9_code (5 : Nat) (Option.some Jvm.ClassFile.FieldType.int)).before args0 about1 = true := code_word (m := ⟨3, 6⟩) (meth := k3m6) (c := k3c6) (by decide +kernel) rfl rfl rfl (by decide +kernel)
set_option maxRecDepth 65536 in
theorem w_c11 : (Jvm.Cond.code ({ cls := "com/example/request_throttle/requestthrottle/RingColumn", name := "size", desc := "(I)I" } : Jvm.MethodName) prog_17_method_3_code (2 : Nat) (Option.some Jvm.ClassFile.FieldType.int)).before args0 about1 = true := code_word (m := ⟨3, 2⟩) (meth := k3m2) (c := k3c2) (by decide +kernel) rfl rfl rfl (by decide +kernel)
set_option maxRecDepth 65536 in
theorem w_c12 : (Jvm.Cond.code ({ cls := "com/example/request_throttle/requestthrottle/RingColumn", name := "get", desc := "(III)J" } : Jvm.MethodName) prog_17_method_4_code (5 : Nat) (Option.some Jvm.ClassFile.FieldType.long)).before args0 about1 = true := code_word (m := ⟨3, 3⟩) (meth := k3m3) (c := k3c3) (by decide +kernel) rfl rfl rfl (by decide +kernel)
set_option maxRecDepth 65536 in
theorem w_c13 : (Jvm.Cond.code ({ cls := "com/example/request_throttle/requestthrottle/RingColumn", name := "removeFirst", desc := "(I)V" } : Jvm.MethodName) prog_17_method_7_code (3 : Nat) (Option.none : Option Jvm.ClassFile.FieldType)).before args0 about1 = true := code_word (m := ⟨3, 5⟩) (meth := k3m5) (c := k3c5) (by decide +kernel) rfl rfl rfl (by decide +kernel)
def codes1 : List Jvm.Cond := [Jvm.Cond.code x code maxLocals ret, Jvm.Cond.code ({ cls := "java/lang/Math", name := "min", desc := "(II)I" } : Jvm.MethodName) jdk_29_method_69_code (2 : Nat) (Option.some Jvm.ClassFile.FieldType.int), Jvm.Cond.code ({ cls := "com/example/request_throttle/requestthrottle/RingColumn", name := "<init>", desc := "(III)V" } : Jvm.MethodName) prog_17_method_1_code (4 : Nat) (Option.none : Option Jvm.ClassFile.FieldType), Jvm.Cond.code ({ cls := "java/lang/Object", name := "<init>", desc := "()V" } : Jvm.MethodName) object_method_1_code (1 : Nat) (Option.none : Option Jvm.ClassFile.FieldType), Jvm.Cond.code ({ cls := "com/example/request_throttle/requestthrottle/RingColumn", name := "clear", desc := "(I)V" } : Jvm.MethodName) prog_17_method_2_code (2 : Nat) (Option.none : Option Jvm.ClassFile.FieldType), Jvm.Cond.code ({ cls := "com/example/request_throttle/requestthrottle/RingColumn", name := "add", desc := "(IJ)V" } : Jvm.MethodName) prog_17_method_6_code (5 : Nat) (Option.none : Option Jvm.ClassFile.FieldType), Jvm.Cond.code ({ cls := "com/example/request_throttle/requestthrottle/RingColumn", name := "grow", desc := "(I)[J" } : Jvm.MethodName) prog_17_method_10_code (7 : Nat) (Option.some (Jvm.ClassFile.FieldType.array Jvm.ClassFile.FieldType.long)), Jvm.Cond.code ({ cls := "java/lang/Math", name := "max", desc := "(JJ)J" } : Jvm.MethodName) jdk_29_method_66_code (4 : Nat) (Option.some Jvm.ClassFile.FieldType.long), Jvm.Cond.code ({ cls := "java/lang/Math", name := "min", desc := "(JJ)J" } : Jvm.MethodName) jdk_29_method_70_code (4 : Nat) (Option.some Jvm.ClassFile.FieldType.long), Jvm.Cond.code ({ cls := "java/lang/Math", name := "toIntExact", desc := "(J)I" } : Jvm.MethodName) jdk_29_method_43_code (2 : Nat) (Option.some Jvm.ClassFile.FieldType.int), Jvm.Cond.code ({ cls := "com/example/request_throttle/requestthrottle/RingColumn", name := "start", desc := "([JII)I" } : Jvm.MethodName) prog_17_method_9_code (5 : Nat) (Option.some Jvm.ClassFile.FieldType.int), Jvm.Cond.code ({ cls := "com/example/request_throttle/requestthrottle/RingColumn", name := "size", desc := "(I)I" } : Jvm.MethodName) prog_17_method_3_code (2 : Nat) (Option.some Jvm.ClassFile.FieldType.int), Jvm.Cond.code ({ cls := "com/example/request_throttle/requestthrottle/RingColumn", name := "get", desc := "(III)J" } : Jvm.MethodName) prog_17_method_4_code (5 : Nat) (Option.some Jvm.ClassFile.FieldType.long), Jvm.Cond.code ({ cls := "com/example/request_throttle/requestthrottle/RingColumn", name := "removeFirst", desc := "(I)V" } : Jvm.MethodName) prog_17_method_7_code (3 : Nat) (Option.none : Option Jvm.ClassFile.FieldType)]
set_option maxRecDepth 65536 in
theorem codes_eq : words1.filter isCode = codes1 := rfl
theorem w_codes : ∀ c ∈ words1.filter isCode, c.before args0 about1 = true := by
  rw [codes_eq]
  intro c hc
  simp only [codes1, List.mem_cons, List.not_mem_nil, or_false] at hc
  rcases hc with rfl | rfl | rfl | rfl | rfl | rfl | rfl | rfl | rfl | rfl | rfl | rfl | rfl | rfl
  · exact w_c0
  · exact w_c1
  · exact w_c2
  · exact w_c3
  · exact w_c4
  · exact w_c5
  · exact w_c6
  · exact w_c7
  · exact w_c8
  · exact w_c9
  · exact w_c10
  · exact w_c11
  · exact w_c12
  · exact w_c13
set_option maxRecDepth 65536 in
theorem w_t1 : (words1.take 24).all (fun c => isCode c || c.before args0 about1) = true := by decide +kernel
set_option maxRecDepth 65536 in
theorem w_t2 : ((words1.drop 24).take 24).all (fun c => isCode c || c.before args0 about1) = true := by decide +kernel
set_option maxRecDepth 65536 in
theorem w_t3 : (((words1.drop 24).drop 24).take 24).all (fun c => isCode c || c.before args0 about1) = true := by decide +kernel
set_option maxRecDepth 65536 in
theorem w_t4 : (((words1.drop 24).drop 24).drop 24).all (fun c => isCode c || c.before args0 about1) = true := by decide +kernel
theorem w_tables : (allAtoms (Jvm.Cond.code x code maxLocals ret :: tables_1)).before args0 about1 = true := by
  rw [allAtoms_all]
  show words1.all (fun c => c.before args0 about1) = true
  refine all_split ?_ w_codes
  rw [← List.take_append_drop 24 words1, List.all_append, w_t1, ← List.take_append_drop 24 (words1.drop 24), List.all_append, w_t2, ← List.take_append_drop 24 ((words1.drop 24).drop 24), List.all_append, w_t3, w_t4]
  rfl
set_option maxRecDepth 65536 in
theorem w_case : (Jvm.Cond.and given_1 narrow_1).before args0 about1 = true := by decide +kernel
theorem w_applies : (headSpec (Jvm.Cond.code x code maxLocals ret :: tables_1) room_1).applies x e0.platform about1 = true :=
  (Spec.applies_iff w_frames).mpr ⟨w_running, w_runnable, w_alone, w_named, w_hears, w_ripe, w_room, w_tables⟩
theorem atStart : AtStart classFile x code maxLocals ret World_1 tables_1 room_1 Calls_1 rest_1 Pre_1 launch0 p0 e0 about1 theMethod args0 below0 :=
  ⟨lists_1, trivial, launch0.admits_env _ _ _, launch0.least_env, fairChoices_fair.cas, fairChoices_fair.clock, w_frames, w_args, w_heap, w_applies, trivial, trivial, w_case⟩
end start1
theorem witness_1 : WitnessClaimed_1 := ⟨start1.p0, start1.e0, start1.about1, start1.theMethod, start1.args0, start1.below0, start1.atStart⟩
end Jvm.Pilot.@@N@@
