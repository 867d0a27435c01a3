import JvmDerived
import JvmDerived.Pilot.@@N@@Statement
import JvmDerived.Pilot.@@N@@Code
set_option linter.unusedVariables false
set_option linter.unusedSimpArgs false
namespace Jvm.Pilot.@@N@@
open Jvm Jvm.ClassFile Sem Op Lib Jvm.Free Jvm.Stand Jvm.LawKit Jvm.RoadKit Bundle Jvm.Pilot.@@N@@.Jvm.D
/-! THE WALK, SAID FORWARD: `G w Q h k n pc Ls st` says: from every point of the walk `w` whose heap is h, with k cells and n slots made, standing at pc with the locals Ls and the stack st, the run ends in a return that meets Q. One law a step carries G from the next point back to this one. -/
abbrev Wk := Program × Launch × Env × Room × State × MethodId × Array Value × List Frame × Method × Code × Nat
abbrev Wk.p (w : Wk) : Program := w.1
abbrev Wk.l (w : Wk) : Launch := w.2.1
abbrev Wk.e (w : Wk) : Env := w.2.2.1
abbrev Wk.R (w : Wk) : Room := w.2.2.2.1
abbrev Wk.s (w : Wk) : State := w.2.2.2.2.1
abbrev Wk.m (w : Wk) : MethodId := w.2.2.2.2.2.1
abbrev Wk.args (w : Wk) : Array Value := w.2.2.2.2.2.2.1
abbrev Wk.below (w : Wk) : List Frame := w.2.2.2.2.2.2.2.1
abbrev Wk.meth (w : Wk) : Method := w.2.2.2.2.2.2.2.2.1
abbrev Wk.c (w : Wk) : Code := w.2.2.2.2.2.2.2.2.2.1
abbrev Wk.n0 (w : Wk) : Nat := w.2.2.2.2.2.2.2.2.2.2
def Cx (w : Wk) (l : Launch) (Z : State) (own : String) (bytes : ByteArray) (mx : Nat) (rt : Option FieldType) (nm : String) (rm : Room) (n0 : Nat) : Prop :=
  w.l = l ∧ w.p.tables.exec = Jvm.exec ∧ Z.Warmed39 w.s.vm ∧ w.c.code = bytes ∧ w.c.maxLocals = mx ∧ w.s.vm.findClass own = some w.m.cls ∧ w.meth.sig.returnType = rt ∧ w.meth.locks = false ∧ w.meth.name = nm ∧ w.R = rm ∧ w.n0 = n0
def Ends (w : Wk) (Q : Option Value → Heap → Prop) (A : State) : Prop :=
  ∃ s₂ o, Steps w.p.tables w.e w.below A s₂ ∧ s₂.status = .running ∧ Ended s₂ w.below o ∧ ∃ v L, o = .returned v ∧ (Q v s₂.heap ∧ Fr w.n0 L) ∧ FrameEnd w.s o s₂ L w.R.cells w.R.slots
def G (w : Wk) (Q : Option Value → Heap → Prop) (h : Heap) (k n pc : Nat) (Ls : Array Slot) (st : List Value) : Prop :=
  ∀ (T : State) (locs : List Loc), Stand w.p w.l w.e w.R w.s w.m w.args w.below w.meth w.c T locs k n → T.heap = h → Fr w.n0 locs → Ends w Q (T.setTop (mkF w.m pc Ls st))
def Con (l : Launch) (Z : State) (y : MethodName) (bytes : ByteArray) (mx : Nat) (rt : Option FieldType) (rm : Room) (as : Array Value) (h : Heap) (n0 : Nat) (Q : Option Value → Heap → Prop) : Prop :=
  ∀ ws, MetFree l y (head1 (Jvm.Cond.code y bytes mx rt :: ws) rm) (fun a U => a = as ∧ Z.Warmed39 U.vm ∧ U.heap = h) (fun _ _ _ _ _ => True) (fun _ U o U' => ∃ v L, o = .returned v ∧ (Q v U'.heap ∧ Fr n0 L) ∧ FrameEnd U o U' L rm.cells rm.slots)
def psh (v : Option Value) (st : List Value) : List Value := match v with | none => st | some x => x :: st
theorem psh_eq (v : Option Value) (st : List Value) : v.toList ++ st = psh v st := by cases v <;> rfl
section Gs
variable {w : Wk} {l : Launch} {Z : State} {own : String} {bytes : ByteArray} {mx : Nat} {rt : Option FieldType} {nm : String} {rm : Room} {n0 : Nat} {Q : Option Value → Heap → Prop} {h : Heap} {k n pc pc' : Nat} {Ls Ls' : Array Slot} {st rest : List Value} {a0 : Array Value} {t : FieldType} {k' n' : Nat}
theorem Con.mk {y : MethodName} {as : Array Value} (hp : plainFor y = true) (hef : ∀ m, entryFrame m as mx = mkF m 0 Ls []) (body : ∀ w : Wk, Cx w l Z y.cls bytes mx rt y.name rm n0 → G w Q h 0 0 0 Ls []) : Con l Z y bytes mx rt rm as h n0 Q := by
  intro ws
  refine MetFree.of_bodySF hp hisR ?_
  intro p e s m args below meth c s₁ Bd hml0 hP hK
  obtain ⟨rfl, hZ, hh⟩ := hP
  have X0 : Stand p l e rm s m args below meth c s₁ [] 0 0 := Stand.of_body Bd
  have e0 : s₁.heap = h := by rw [← hh, Bd.state]; rfl
  obtain ⟨s₂, o, h1, h2, h3, h4⟩ := body (p, l, e, rm, s, m, args, below, meth, c, n0) ⟨rfl, Bd.exec, hZ, Bd.bytes, hml0, findClass_of_methodNamed Bd.named, Bd.returns, Bd.notSynchronized, (name_of_methodNamed Bd.named Bd.method).1, rfl, rfl⟩ s₁ [] X0 e0 (Fr.nil n0)
  exact ⟨s₂, o, castTop (hef m) h1, h2, h3, h4⟩
theorem Cx.ex (C : Cx w l Z own bytes mx rt nm rm n0) : w.p.tables.exec = Jvm.exec := C.2.1
theorem Cx.hZ (C : Cx w l Z own bytes mx rt nm rm n0) : Z.Warmed39 w.s.vm := C.2.2.1
theorem Cx.dec (C : Cx w l Z own bytes mx rt nm rm n0) {r : Except DecodeError (Instr × Nat)} (hd : decode bytes pc = r) : decode w.c.code pc = r := hb C.2.2.2.1 hd
theorem Cx.ow (C : Cx w l Z own bytes mx rt nm rm n0) : w.s.vm.findClass own = some w.m.cls := C.2.2.2.2.2.1
theorem Cx.ml (C : Cx w l Z own bytes mx rt nm rm n0) : w.c.maxLocals = mx := C.2.2.2.2.1
theorem Cx.ret (C : Cx w l Z own bytes mx rt nm rm n0) : w.meth.sig.returnType = rt := C.2.2.2.2.2.2.1
theorem Cx.lk (C : Cx w l Z own bytes mx rt nm rm n0) : w.meth.locks = false := C.2.2.2.2.2.2.2.1
theorem Cx.mn (C : Cx w l Z own bytes mx rt nm rm n0) : w.meth.name = nm := C.2.2.2.2.2.2.2.2.1
theorem Cx.ro (C : Cx w l Z own bytes mx rt nm rm n0) : w.R = rm := C.2.2.2.2.2.2.2.2.2.1
theorem Cx.nn (C : Cx w l Z own bytes mx rt nm rm n0) : w.n0 = n0 := C.2.2.2.2.2.2.2.2.2.2
theorem G.adv (st' : ∀ T locs, Stand w.p w.l w.e w.R w.s w.m w.args w.below w.meth w.c T locs k n → T.heap = h → ∀ t, Steps w.p.tables w.e w.below (T.setTop (mkF w.m pc' Ls' rest)) t → Steps w.p.tables w.e w.below (T.setTop (mkF w.m pc Ls st)) t) (g : G w Q h k n pc' Ls' rest) : G w Q h k n pc Ls st :=
  fun T locs X eT N => let ⟨s₂, o, h1, h2⟩ := g T locs X eT N; ⟨s₂, o, st' T locs X eT _ h1, h2⟩
theorem G.to {T T' : State} {locs' : List Loc} {h' : Heap} {k' n' : Nat} (X' : Stand w.p w.l w.e w.R w.s w.m w.args w.below w.meth w.c T' locs' k' n') (eT : T'.heap = h') (N : Fr w.n0 locs') (s' : ∀ t, Steps w.p.tables w.e w.below (T'.setTop (mkF w.m pc' Ls' rest)) t → Steps w.p.tables w.e w.below (T.setTop (mkF w.m pc Ls st)) t) (g : G w Q h' k' n' pc' Ls' rest) : Ends w Q (T.setTop (mkF w.m pc Ls st)) :=
  let ⟨s₂, o, h1, h2⟩ := g T' locs' X' eT N; ⟨s₂, o, s' _ h1, h2⟩
theorem G.more (hk : k ≤ k') (hn : n ≤ n') (g : G w Q h k' n' pc Ls st) : G w Q h k n pc Ls st := fun T locs X eT N => g T locs (X.more hk hn) eT N
/-! plain steps -/
theorem g_aloadN (C : Cx w l Z own bytes mx rt nm rm n0) {i : Fin 4} {v : Value} (hd : decode bytes pc = .ok (.aload_n i, 1)) (hl : Ls[i.val]? = some (.val v)) (hv : v.isRef = true) (hp : pc + 1 = pc') (g : G w Q h k n pc' Ls (v :: st)) : G w Q h k n pc Ls st := by
  subst hp; exact g.adv fun T locs X _ t r => XS.aloadN X.here C.ex rfl (C.dec hd) hl hv r
theorem g_aload (C : Cx w l Z own bytes mx rt nm rm n0) {i : Nat} {v : Value} (hd : decode bytes pc = .ok (.aload i, 2)) (hl : Ls[i]? = some (.val v)) (hv : v.isRef = true) (hp : pc + 2 = pc') (g : G w Q h k n pc' Ls (v :: st)) : G w Q h k n pc Ls st := by
  subst hp; exact g.adv fun T locs X _ t r => XS.aload X.here C.ex rfl (C.dec hd) hl hv r
theorem g_iloadN (C : Cx w l Z own bytes mx rt nm rm n0) {i : Fin 4} {v : Int32} (hd : decode bytes pc = .ok (.iload_n i, 1)) (hl : Ls[i.val]? = some (.val (.int v))) (hp : pc + 1 = pc') (g : G w Q h k n pc' Ls (.int v :: st)) : G w Q h k n pc Ls st := by
  subst hp; exact g.adv fun T locs X _ t r => XS.iloadN X.here C.ex rfl (C.dec hd) hl r
theorem g_iload (C : Cx w l Z own bytes mx rt nm rm n0) {i : Nat} {v : Int32} (hd : decode bytes pc = .ok (.iload i, 2)) (hl : Ls[i]? = some (.val (.int v))) (hp : pc + 2 = pc') (g : G w Q h k n pc' Ls (.int v :: st)) : G w Q h k n pc Ls st := by
  subst hp; exact g.adv fun T locs X _ t r => XS.iload X.here C.ex rfl (C.dec hd) hl r
theorem g_lloadN (C : Cx w l Z own bytes mx rt nm rm n0) {i : Fin 4} {v : Int64} (hd : decode bytes pc = .ok (.lload_n i, 1)) (hl : Ls[i.val]? = some (.val (.long v))) (hp : pc + 1 = pc') (g : G w Q h k n pc' Ls (.long v :: st)) : G w Q h k n pc Ls st := by
  subst hp; exact g.adv fun T locs X _ t r => XS.lloadN X.here C.ex rfl (C.dec hd) hl r
theorem g_lload (C : Cx w l Z own bytes mx rt nm rm n0) {i : Nat} {v : Int64} (hd : decode bytes pc = .ok (.lload i, 2)) (hl : Ls[i]? = some (.val (.long v))) (hp : pc + 2 = pc') (g : G w Q h k n pc' Ls (.long v :: st)) : G w Q h k n pc Ls st := by
  subst hp; exact g.adv fun T locs X _ t r => XS.lload X.here C.ex rfl (C.dec hd) hl r
theorem g_istoreN (C : Cx w l Z own bytes mx rt nm rm n0) {i : Fin 4} {x : Int32} (hd : decode bytes pc = .ok (.istore_n i, 1)) (hs : st = .int x :: rest) (hl : storeLocals Ls i.val (.int x) = some Ls') (hp : pc + 1 = pc') (g : G w Q h k n pc' Ls' rest) : G w Q h k n pc Ls st := by
  subst hp; exact g.adv fun T locs X _ t r => XS.istoreN X.here C.ex rfl (C.dec hd) hs hl r
theorem g_istore (C : Cx w l Z own bytes mx rt nm rm n0) {i : Nat} {x : Int32} (hd : decode bytes pc = .ok (.istore i, 2)) (hs : st = .int x :: rest) (hl : storeLocals Ls i (.int x) = some Ls') (hp : pc + 2 = pc') (g : G w Q h k n pc' Ls' rest) : G w Q h k n pc Ls st := by
  subst hp; exact g.adv fun T locs X _ t r => XS.istore X.here C.ex rfl (C.dec hd) hs hl r
theorem g_lstoreN (C : Cx w l Z own bytes mx rt nm rm n0) {i : Fin 4} {x : Int64} (hd : decode bytes pc = .ok (.lstore_n i, 1)) (hs : st = .long x :: rest) (hl : storeLocals Ls i.val (.long x) = some Ls') (hp : pc + 1 = pc') (g : G w Q h k n pc' Ls' rest) : G w Q h k n pc Ls st := by
  subst hp; exact g.adv fun T locs X _ t r => XS.lstoreN X.here C.ex rfl (C.dec hd) hs hl r
theorem g_lstore (C : Cx w l Z own bytes mx rt nm rm n0) {i : Nat} {x : Int64} (hd : decode bytes pc = .ok (.lstore i, 2)) (hs : st = .long x :: rest) (hl : storeLocals Ls i (.long x) = some Ls') (hp : pc + 2 = pc') (g : G w Q h k n pc' Ls' rest) : G w Q h k n pc Ls st := by
  subst hp; exact g.adv fun T locs X _ t r => XS.lstore X.here C.ex rfl (C.dec hd) hs hl r
theorem g_astoreN (C : Cx w l Z own bytes mx rt nm rm n0) {i : Fin 4} {x : Value} (hd : decode bytes pc = .ok (.astore_n i, 1)) (hs : st = x :: rest) (hv : x.isRef = true) (hl : storeLocals Ls i.val x = some Ls') (hp : pc + 1 = pc') (g : G w Q h k n pc' Ls' rest) : G w Q h k n pc Ls st := by
  subst hp; exact g.adv fun T locs X _ t r => XS.astoreN X.here C.ex rfl (C.dec hd) hs hv hl r
theorem g_astore (C : Cx w l Z own bytes mx rt nm rm n0) {i : Nat} {x : Value} (hd : decode bytes pc = .ok (.astore i, 2)) (hs : st = x :: rest) (hv : x.isRef = true) (hl : storeLocals Ls i x = some Ls') (hp : pc + 2 = pc') (g : G w Q h k n pc' Ls' rest) : G w Q h k n pc Ls st := by
  subst hp; exact g.adv fun T locs X _ t r => XS.astore X.here C.ex rfl (C.dec hd) hs hv hl r
theorem g_iinc (C : Cx w l Z own bytes mx rt nm rm n0) {i : Nat} {cst : Int} {x : Int32} (hd : decode bytes pc = .ok (.iinc i cst, 3)) (hl : Ls[i]? = some (.val (.int x))) (hl' : storeLocals Ls i (.int (x + Int32.ofInt cst)) = some Ls') (hp : pc + 3 = pc') (g : G w Q h k n pc' Ls' st) : G w Q h k n pc Ls st := by
  subst hp; exact g.adv fun T locs X _ t r => XS.iinc X.here C.ex rfl (C.dec hd) hl hl' r
theorem g_iconst (C : Cx w l Z own bytes mx rt nm rm n0) {i : Int} {v : Int32} (hd : decode bytes pc = .ok (.iconst i, 1)) (hv : Int32.ofInt i = v) (hp : pc + 1 = pc') (g : G w Q h k n pc' Ls (.int v :: st)) : G w Q h k n pc Ls st := by
  subst hp hv; exact g.adv fun T locs X _ t r => XS.iconst X.here C.ex rfl (C.dec hd) r
theorem g_bipush (C : Cx w l Z own bytes mx rt nm rm n0) {i : Int} {v : Int32} (hd : decode bytes pc = .ok (.bipush i, 2)) (hv : (Int8.ofInt i).toInt32 = v) (hp : pc + 2 = pc') (g : G w Q h k n pc' Ls (.int v :: st)) : G w Q h k n pc Ls st := by
  subst hp hv; exact g.adv fun T locs X _ t r => XS.bipush X.here C.ex rfl (C.dec hd) r
theorem g_sipush (C : Cx w l Z own bytes mx rt nm rm n0) {i : Int} {v : Int32} (hd : decode bytes pc = .ok (.sipush i, 3)) (hv : (Int16.ofInt i).toInt32 = v) (hp : pc + 3 = pc') (g : G w Q h k n pc' Ls (.int v :: st)) : G w Q h k n pc Ls st := by
  subst hp hv; exact g.adv fun T locs X _ t r => XS.sipush X.here C.ex rfl (C.dec hd) r
theorem g_lconst (C : Cx w l Z own bytes mx rt nm rm n0) {i : Fin 2} {v : Int64} (hd : decode bytes pc = .ok (.lconst i, 1)) (hv : Int64.ofNat i.val = v) (hp : pc + 1 = pc') (g : G w Q h k n pc' Ls (.long v :: st)) : G w Q h k n pc Ls st := by
  subst hp hv; exact g.adv fun T locs X _ t r => XS.lconst X.here C.ex rfl (C.dec hd) r
theorem g_aconstNull (C : Cx w l Z own bytes mx rt nm rm n0) (hd : decode bytes pc = .ok (.aconst_null, 1)) (hp : pc + 1 = pc') (g : G w Q h k n pc' Ls (.null :: st)) : G w Q h k n pc Ls st := by
  subst hp; exact g.adv fun T locs X _ t r => XS.aconstNull X.here C.ex rfl (C.dec hd) r
theorem g_ldcInt (C : Cx w l Z own bytes mx rt nm rm n0) {i : Nat} {v : Int32} (hw : (Jvm.Cond.constant own i v).before a0 Z = true) (hd : decode bytes pc = .ok (.ldc i, 2)) (hp : pc + 2 = pc') (g : G w Q h k n pc' Ls (.int v :: st)) : G w Q h k n pc Ls st := by
  subst hp; exact g.adv fun T locs X _ t r => X.ldcInt C.ex C.ow (mvT C.hZ hw) (g := mkF w.m pc Ls st) rfl (C.dec hd) t r
theorem g_ldc2Long (C : Cx w l Z own bytes mx rt nm rm n0) {i : Nat} {v : Int64} (hw : (Jvm.Cond.constantLong own i v).before a0 Z = true) (hd : decode bytes pc = .ok (.ldc2_w i, 3)) (hp : pc + 3 = pc') (g : G w Q h k n pc' Ls (.long v :: st)) : G w Q h k n pc Ls st := by
  subst hp; exact g.adv fun T locs X _ t r => X.ldc2Long C.ex C.ow (mvT C.hZ hw) (g := mkF w.m pc Ls st) rfl (C.dec hd) t r
theorem g_iadd (C : Cx w l Z own bytes mx rt nm rm n0) {x y : Int32} (hd : decode bytes pc = .ok (.iadd, 1)) (hs : st = .int y :: .int x :: rest) (hp : pc + 1 = pc') (g : G w Q h k n pc' Ls (.int (x + y) :: rest)) : G w Q h k n pc Ls st := by
  subst hp; exact g.adv fun T locs X _ t r => XS.iadd X.here C.ex rfl (C.dec hd) hs r
theorem g_isub (C : Cx w l Z own bytes mx rt nm rm n0) {x y : Int32} (hd : decode bytes pc = .ok (.isub, 1)) (hs : st = .int y :: .int x :: rest) (hp : pc + 1 = pc') (g : G w Q h k n pc' Ls (.int (x - y) :: rest)) : G w Q h k n pc Ls st := by
  subst hp; exact g.adv fun T locs X _ t r => XS.isub X.here C.ex rfl (C.dec hd) hs r
theorem g_imul (C : Cx w l Z own bytes mx rt nm rm n0) {x y : Int32} (hd : decode bytes pc = .ok (.imul, 1)) (hs : st = .int y :: .int x :: rest) (hp : pc + 1 = pc') (g : G w Q h k n pc' Ls (.int (x * y) :: rest)) : G w Q h k n pc Ls st := by
  subst hp; exact g.adv fun T locs X _ t r => XS.imul X.here C.ex rfl (C.dec hd) hs r
theorem g_iand (C : Cx w l Z own bytes mx rt nm rm n0) {x y : Int32} (hd : decode bytes pc = .ok (.iand, 1)) (hs : st = .int y :: .int x :: rest) (hp : pc + 1 = pc') (g : G w Q h k n pc' Ls (.int (x &&& y) :: rest)) : G w Q h k n pc Ls st := by
  subst hp; exact g.adv fun T locs X _ t r => XS.iand X.here C.ex rfl (C.dec hd) hs r
theorem g_ior (C : Cx w l Z own bytes mx rt nm rm n0) {x y : Int32} (hd : decode bytes pc = .ok (.ior, 1)) (hs : st = .int y :: .int x :: rest) (hp : pc + 1 = pc') (g : G w Q h k n pc' Ls (.int (x ||| y) :: rest)) : G w Q h k n pc Ls st := by
  subst hp; exact g.adv fun T locs X _ t r => XS.ior X.here C.ex rfl (C.dec hd) hs r
theorem g_ixor (C : Cx w l Z own bytes mx rt nm rm n0) {x y : Int32} (hd : decode bytes pc = .ok (.ixor, 1)) (hs : st = .int y :: .int x :: rest) (hp : pc + 1 = pc') (g : G w Q h k n pc' Ls (.int (x ^^^ y) :: rest)) : G w Q h k n pc Ls st := by
  subst hp; exact g.adv fun T locs X _ t r => XS.ixor X.here C.ex rfl (C.dec hd) hs r
theorem g_ladd (C : Cx w l Z own bytes mx rt nm rm n0) {x y : Int64} (hd : decode bytes pc = .ok (.ladd, 1)) (hs : st = .long y :: .long x :: rest) (hp : pc + 1 = pc') (g : G w Q h k n pc' Ls (.long (x + y) :: rest)) : G w Q h k n pc Ls st := by
  subst hp; exact g.adv fun T locs X _ t r => XS.ladd X.here C.ex rfl (C.dec hd) hs r
theorem g_lsub (C : Cx w l Z own bytes mx rt nm rm n0) {x y : Int64} (hd : decode bytes pc = .ok (.lsub, 1)) (hs : st = .long y :: .long x :: rest) (hp : pc + 1 = pc') (g : G w Q h k n pc' Ls (.long (x - y) :: rest)) : G w Q h k n pc Ls st := by
  subst hp; exact g.adv fun T locs X _ t r => XS.lsub X.here C.ex rfl (C.dec hd) hs r
theorem g_lmul (C : Cx w l Z own bytes mx rt nm rm n0) {x y : Int64} (hd : decode bytes pc = .ok (.lmul, 1)) (hs : st = .long y :: .long x :: rest) (hp : pc + 1 = pc') (g : G w Q h k n pc' Ls (.long (x * y) :: rest)) : G w Q h k n pc Ls st := by
  subst hp; exact g.adv fun T locs X _ t r => XS.lmul X.here C.ex rfl (C.dec hd) hs r
theorem g_land (C : Cx w l Z own bytes mx rt nm rm n0) {x y : Int64} (hd : decode bytes pc = .ok (.land, 1)) (hs : st = .long y :: .long x :: rest) (hp : pc + 1 = pc') (g : G w Q h k n pc' Ls (.long (x &&& y) :: rest)) : G w Q h k n pc Ls st := by
  subst hp; exact g.adv fun T locs X _ t r => XS.land X.here C.ex rfl (C.dec hd) hs r
theorem g_lor (C : Cx w l Z own bytes mx rt nm rm n0) {x y : Int64} (hd : decode bytes pc = .ok (.lor, 1)) (hs : st = .long y :: .long x :: rest) (hp : pc + 1 = pc') (g : G w Q h k n pc' Ls (.long (x ||| y) :: rest)) : G w Q h k n pc Ls st := by
  subst hp; exact g.adv fun T locs X _ t r => XS.lor X.here C.ex rfl (C.dec hd) hs r
theorem g_lxor (C : Cx w l Z own bytes mx rt nm rm n0) {x y : Int64} (hd : decode bytes pc = .ok (.lxor, 1)) (hs : st = .long y :: .long x :: rest) (hp : pc + 1 = pc') (g : G w Q h k n pc' Ls (.long (x ^^^ y) :: rest)) : G w Q h k n pc Ls st := by
  subst hp; exact g.adv fun T locs X _ t r => XS.lxor X.here C.ex rfl (C.dec hd) hs r
theorem g_ishl (C : Cx w l Z own bytes mx rt nm rm n0) {x y : Int32} (hd : decode bytes pc = .ok (.ishl, 1)) (hs : st = .int y :: .int x :: rest) (hp : pc + 1 = pc') (g : G w Q h k n pc' Ls (.int (x <<< (y &&& 31)) :: rest)) : G w Q h k n pc Ls st := by
  subst hp; exact g.adv fun T locs X _ t r => XS.ishl X.here C.ex rfl (C.dec hd) hs r
theorem g_ishr (C : Cx w l Z own bytes mx rt nm rm n0) {x y : Int32} (hd : decode bytes pc = .ok (.ishr, 1)) (hs : st = .int y :: .int x :: rest) (hp : pc + 1 = pc') (g : G w Q h k n pc' Ls (.int (x >>> (y &&& 31)) :: rest)) : G w Q h k n pc Ls st := by
  subst hp; exact g.adv fun T locs X _ t r => XS.ishr X.here C.ex rfl (C.dec hd) hs r
theorem g_iushr (C : Cx w l Z own bytes mx rt nm rm n0) {x y : Int32} (hd : decode bytes pc = .ok (.iushr, 1)) (hs : st = .int y :: .int x :: rest) (hp : pc + 1 = pc') (g : G w Q h k n pc' Ls (.int ((x.toUInt32 >>> (y &&& 31).toUInt32).toInt32) :: rest)) : G w Q h k n pc Ls st := by
  subst hp; exact g.adv fun T locs X _ t r => XS.iushr X.here C.ex rfl (C.dec hd) hs r
theorem g_ineg (C : Cx w l Z own bytes mx rt nm rm n0) {x : Int32} (hd : decode bytes pc = .ok (.ineg, 1)) (hs : st = .int x :: rest) (hp : pc + 1 = pc') (g : G w Q h k n pc' Ls (.int (-x) :: rest)) : G w Q h k n pc Ls st := by
  subst hp; exact g.adv fun T locs X _ t r => XS.ineg X.here C.ex rfl (C.dec hd) hs r
theorem g_lneg (C : Cx w l Z own bytes mx rt nm rm n0) {x : Int64} (hd : decode bytes pc = .ok (.lneg, 1)) (hs : st = .long x :: rest) (hp : pc + 1 = pc') (g : G w Q h k n pc' Ls (.long (-x) :: rest)) : G w Q h k n pc Ls st := by
  subst hp; exact g.adv fun T locs X _ t r => XS.lneg X.here C.ex rfl (C.dec hd) hs r
theorem g_i2l (C : Cx w l Z own bytes mx rt nm rm n0) {x : Int32} (hd : decode bytes pc = .ok (.i2l, 1)) (hs : st = .int x :: rest) (hp : pc + 1 = pc') (g : G w Q h k n pc' Ls (.long x.toInt64 :: rest)) : G w Q h k n pc Ls st := by
  subst hp; exact g.adv fun T locs X _ t r => XS.i2l X.here C.ex rfl (C.dec hd) hs r
theorem g_l2i (C : Cx w l Z own bytes mx rt nm rm n0) {x : Int64} (hd : decode bytes pc = .ok (.l2i, 1)) (hs : st = .long x :: rest) (hp : pc + 1 = pc') (g : G w Q h k n pc' Ls (.int x.toInt32 :: rest)) : G w Q h k n pc Ls st := by
  subst hp; exact g.adv fun T locs X _ t r => XS.l2i X.here C.ex rfl (C.dec hd) hs r
theorem g_i2b (C : Cx w l Z own bytes mx rt nm rm n0) {x : Int32} (hd : decode bytes pc = .ok (.i2b, 1)) (hs : st = .int x :: rest) (hp : pc + 1 = pc') (g : G w Q h k n pc' Ls (.int x.toInt8.toInt32 :: rest)) : G w Q h k n pc Ls st := by
  subst hp; exact g.adv fun T locs X _ t r => XS.i2b X.here C.ex rfl (C.dec hd) hs r
theorem g_i2s (C : Cx w l Z own bytes mx rt nm rm n0) {x : Int32} (hd : decode bytes pc = .ok (.i2s, 1)) (hs : st = .int x :: rest) (hp : pc + 1 = pc') (g : G w Q h k n pc' Ls (.int x.toInt16.toInt32 :: rest)) : G w Q h k n pc Ls st := by
  subst hp; exact g.adv fun T locs X _ t r => XS.i2s X.here C.ex rfl (C.dec hd) hs r
theorem g_i2c (C : Cx w l Z own bytes mx rt nm rm n0) {x : Int32} (hd : decode bytes pc = .ok (.i2c, 1)) (hs : st = .int x :: rest) (hp : pc + 1 = pc') (g : G w Q h k n pc' Ls (.int x.toUInt32.toUInt16.toUInt32.toInt32 :: rest)) : G w Q h k n pc Ls st := by
  subst hp; exact g.adv fun T locs X _ t r => XS.i2c X.here C.ex rfl (C.dec hd) hs r
theorem g_irem (C : Cx w l Z own bytes mx rt nm rm n0) {x y : Int32} (hd : decode bytes pc = .ok (.irem, 1)) (hs : st = .int y :: .int x :: rest) (hy : y ≠ 0) (hp : pc + 1 = pc') (g : G w Q h k n pc' Ls (.int (x % y) :: rest)) : G w Q h k n pc Ls st := by
  subst hp; exact g.adv fun T locs X _ t r => iremM (g := mkF w.m pc Ls st) X C.ex rfl (C.dec hd) hs hy r
theorem g_idiv (C : Cx w l Z own bytes mx rt nm rm n0) {x y : Int32} (hd : decode bytes pc = .ok (.idiv, 1)) (hs : st = .int y :: .int x :: rest) (hy : y ≠ 0) (hp : pc + 1 = pc') (g : G w Q h k n pc' Ls (.int (x / y) :: rest)) : G w Q h k n pc Ls st := by
  subst hp; exact g.adv fun T locs X _ t r => XS.idiv X.here C.ex rfl (C.dec hd) hs hy r
theorem g_ldiv (C : Cx w l Z own bytes mx rt nm rm n0) {x y : Int64} (hd : decode bytes pc = .ok (.ldiv, 1)) (hs : st = .long y :: .long x :: rest) (hy : y ≠ 0) (hp : pc + 1 = pc') (g : G w Q h k n pc' Ls (.long (x / y) :: rest)) : G w Q h k n pc Ls st := by
  subst hp; exact g.adv fun T locs X _ t r => XS.ldiv X.here C.ex rfl (C.dec hd) hs hy r
theorem g_lrem (C : Cx w l Z own bytes mx rt nm rm n0) {x y : Int64} (hd : decode bytes pc = .ok (.lrem, 1)) (hs : st = .long y :: .long x :: rest) (hy : y ≠ 0) (hp : pc + 1 = pc') (g : G w Q h k n pc' Ls (.long (x - (x / y) * y) :: rest)) : G w Q h k n pc Ls st := by
  subst hp; exact g.adv fun T locs X _ t r => XS.lrem X.here C.ex rfl (C.dec hd) hs hy r
theorem g_lcmp (C : Cx w l Z own bytes mx rt nm rm n0) {x y : Int64} (hd : decode bytes pc = .ok (.lcmp, 1)) (hs : st = .long y :: .long x :: rest) (hp : pc + 1 = pc') (g : G w Q h k n pc' Ls (.int (lcmpW x y) :: rest)) : G w Q h k n pc Ls st := by
  subst hp; exact g.adv fun T locs X _ t r => XS.lcmp X.here C.ex rfl (C.dec hd) hs r
theorem g_dup (C : Cx w l Z own bytes mx rt nm rm n0) {x : Value} (hd : decode bytes pc = .ok (.dup, 1)) (hs : st = x :: rest) (hc : x.category = 1) (hp : pc + 1 = pc') (g : G w Q h k n pc' Ls (x :: x :: rest)) : G w Q h k n pc Ls st := by
  subst hp; exact g.adv fun T locs X _ t r => XS.dup X.here C.ex rfl (C.dec hd) hs hc r
theorem g_pop (C : Cx w l Z own bytes mx rt nm rm n0) {x : Value} (hd : decode bytes pc = .ok (.pop, 1)) (hs : st = x :: rest) (hc : x.category = 1) (hp : pc + 1 = pc') (g : G w Q h k n pc' Ls rest) : G w Q h k n pc Ls st := by
  subst hp; exact g.adv fun T locs X _ t r => XS.pop X.here C.ex rfl (C.dec hd) hs hc r
theorem g_dup_x1 (C : Cx w l Z own bytes mx rt nm rm n0) {x y : Value} (hd : decode bytes pc = .ok (.dup_x1, 1)) (hs : st = x :: y :: rest) (hc : x.category = 1) (hc' : y.category = 1) (hp : pc + 1 = pc') (g : G w Q h k n pc' Ls (x :: y :: x :: rest)) : G w Q h k n pc Ls st := by
  subst hp; exact g.adv fun T locs X _ t r => XS.dupX1 X.here C.ex rfl (C.dec hd) hs hc hc' r
theorem g_dup2 (C : Cx w l Z own bytes mx rt nm rm n0) {x y : Value} (hd : decode bytes pc = .ok (.dup2, 1)) (hs : st = x :: y :: rest) (hc : x.category = 1) (hc' : y.category = 1) (hp : pc + 1 = pc') (g : G w Q h k n pc' Ls (x :: y :: x :: y :: rest)) : G w Q h k n pc Ls st := by
  subst hp; exact g.adv fun T locs X _ t r => XT.dup2 X.here C.ex rfl (C.dec hd) hs hc hc' r
theorem g_dup2L (C : Cx w l Z own bytes mx rt nm rm n0) {x : Int64} (hd : decode bytes pc = .ok (.dup2, 1)) (hs : st = .long x :: rest) (hp : pc + 1 = pc') (g : G w Q h k n pc' Ls (.long x :: .long x :: rest)) : G w Q h k n pc Ls st := by
  subst hp; exact g.adv fun T locs X _ t r => XT.dup2L X.here C.ex rfl (C.dec hd) hs r
theorem g_pop2L (C : Cx w l Z own bytes mx rt nm rm n0) {x : Int64} (hd : decode bytes pc = .ok (.pop2, 1)) (hs : st = .long x :: rest) (hp : pc + 1 = pc') (g : G w Q h k n pc' Ls rest) : G w Q h k n pc Ls st := by
  subst hp hs; exact g.adv fun T locs X _ t r => by
    have hx := C.ex
    have hd' := C.dec hd
    show Steps w.p.tables w.e w.below (T.setTop { method := w.m, pc := pc, locals := Ls, stack := _ :: rest, locked := none }) _
    jvm_step X.here [X.here.top, hx, hd', Value.category]
    exact r
theorem g_dup2_x2L (C : Cx w l Z own bytes mx rt nm rm n0) {x : Int64} {y : Int32} {z : Addr} (hd : decode bytes pc = .ok (.dup2_x2, 1)) (hs : st = .long x :: .int y :: .ref z :: rest) (hp : pc + 1 = pc') (g : G w Q h k n pc' Ls (.long x :: .int y :: .ref z :: .long x :: rest)) : G w Q h k n pc Ls st := by
  subst hp hs; exact g.adv fun T locs X _ t r => by
    have hx := C.ex
    have hd' := C.dec hd
    show Steps w.p.tables w.e w.below (T.setTop { method := w.m, pc := pc, locals := Ls, stack := _ :: _ :: _ :: rest, locked := none }) _
    jvm_step X.here [X.here.top, hx, hd', Value.category]
    exact r
theorem g_goto (C : Cx w l Z own bytes mx rt nm rm n0) {o : Int} (hd : decode bytes pc = .ok (.goto o, 3)) (ho : 0 ≤ (pc : Int) + o) (hp : ((pc : Int) + o).toNat = pc') (g : G w Q h k n pc' Ls st) : G w Q h k n pc Ls st :=
  g.adv fun T locs X _ t r => XS.goto X.here C.ex rfl (pc0 := pc) rfl (C.dec hd) ho hp r
theorem g_ifY (C : Cx w l Z own bytes mx rt nm rm n0) {cd : ClassFile.Cond} {o : Int} {x : Int32} (hd : decode bytes pc = .ok (.ifCond cd o, 3)) (hs : st = .int x :: rest) (hc : if_icmp.holds cd x 0 = true) (ho : 0 ≤ (pc : Int) + o) (hp : ((pc : Int) + o).toNat = pc') (g : G w Q h k n pc' Ls rest) : G w Q h k n pc Ls st :=
  g.adv fun T locs X _ t r => XS.ifYes X.here C.ex rfl (pc0 := pc) rfl (C.dec hd) hs ((if0 _ _).trans hc) ho hp r
theorem g_ifN (C : Cx w l Z own bytes mx rt nm rm n0) {cd : ClassFile.Cond} {o : Int} {x : Int32} (hd : decode bytes pc = .ok (.ifCond cd o, 3)) (hs : st = .int x :: rest) (hc : if_icmp.holds cd x 0 = false) (hp : pc + 3 = pc') (g : G w Q h k n pc' Ls rest) : G w Q h k n pc Ls st := by
  subst hp; exact g.adv fun T locs X _ t r => XS.ifNo X.here C.ex rfl (C.dec hd) hs ((if0 _ _).trans hc) r
theorem g_icY (C : Cx w l Z own bytes mx rt nm rm n0) {cd : ClassFile.Cond} {o : Int} {x y : Int32} (hd : decode bytes pc = .ok (.if_icmp cd o, 3)) (hs : st = .int y :: .int x :: rest) (hc : if_icmp.holds cd x y = true) (ho : 0 ≤ (pc : Int) + o) (hp : ((pc : Int) + o).toNat = pc') (g : G w Q h k n pc' Ls rest) : G w Q h k n pc Ls st :=
  g.adv fun T locs X _ t r => XS.icmpYes X.here C.ex rfl (pc0 := pc) rfl (C.dec hd) hs hc ho hp r
theorem g_icN (C : Cx w l Z own bytes mx rt nm rm n0) {cd : ClassFile.Cond} {o : Int} {x y : Int32} (hd : decode bytes pc = .ok (.if_icmp cd o, 3)) (hs : st = .int y :: .int x :: rest) (hc : if_icmp.holds cd x y = false) (hp : pc + 3 = pc') (g : G w Q h k n pc' Ls rest) : G w Q h k n pc Ls st := by
  subst hp; exact g.adv fun T locs X _ t r => XS.icmpNo X.here C.ex rfl (C.dec hd) hs hc r
/-- what a branch says, in plain words -/
def says (cd : ClassFile.Cond) (x y : Int32) : Prop := match cd with | .lt => x < y | .ge => ¬ x < y | .gt => y < x | .le => ¬ y < x | .eq => x = y | .ne => ¬ x = y
theorem says_t {cd : ClassFile.Cond} {x y : Int32} (q : says cd x y) : if_icmp.holds cd x y = true := by
  cases cd
  · exact (teq q).1
  · exact (feq q).2
  · exact (tlt q).1
  · exact (flt q).2.1
  · exact (tlt q).2.2.1
  · exact (flt q).2.2.2
theorem says_f {cd : ClassFile.Cond} {x y : Int32} (q : ¬ says cd x y) : if_icmp.holds cd x y = false := by
  cases cd
  · exact (feq q).1
  · exact (teq (Decidable.not_not.mp q)).2
  · exact (flt q).1
  · exact (tlt (Decidable.not_not.mp q)).2.1
  · exact (flt q).2.2.1
  · exact (tlt (Decidable.not_not.mp q)).2.2.2
theorem g_icB (C : Cx w l Z own bytes mx rt nm rm n0) {cd : ClassFile.Cond} {o : Int} {x y : Int32} {pcT : Nat} (hd : decode bytes pc = .ok (.if_icmp cd o, 3)) (hs : st = .int y :: .int x :: rest) (ho : 0 ≤ (pc : Int) + o) (hT : ((pc : Int) + o).toNat = pcT) (hp : pc + 3 = pc') (gy : says cd x y → G w Q h k n pcT Ls rest) (gn : ¬ says cd x y → G w Q h k n pc' Ls rest) : G w Q h k n pc Ls st := by
  by_cases q : says cd x y
  · exact g_icY C hd hs (says_t q) ho hT (gy q)
  · exact g_icN C hd hs (says_f q) hp (gn q)
theorem g_ifB (C : Cx w l Z own bytes mx rt nm rm n0) {cd : ClassFile.Cond} {o : Int} {x : Int32} {pcT : Nat} (hd : decode bytes pc = .ok (.ifCond cd o, 3)) (hs : st = .int x :: rest) (ho : 0 ≤ (pc : Int) + o) (hT : ((pc : Int) + o).toNat = pcT) (hp : pc + 3 = pc') (gy : says cd x 0 → G w Q h k n pcT Ls rest) (gn : ¬ says cd x 0 → G w Q h k n pc' Ls rest) : G w Q h k n pc Ls st := by
  by_cases q : says cd x 0
  · exact g_ifY C hd hs (says_t q) ho hT (gy q)
  · exact g_ifN C hd hs (says_f q) hp (gn q)
theorem g_ifnullY (C : Cx w l Z own bytes mx rt nm rm n0) {o : Int} (hd : decode bytes pc = .ok (.ifnull o, 3)) (hs : st = .null :: rest) (ho : 0 ≤ (pc : Int) + o) (hp : ((pc : Int) + o).toNat = pc') (g : G w Q h k n pc' Ls rest) : G w Q h k n pc Ls st :=
  g.adv fun T locs X _ t r => XS.ifnullYes X.here C.ex rfl (pc0 := pc) rfl (C.dec hd) hs ho hp r
theorem g_ifnullN (C : Cx w l Z own bytes mx rt nm rm n0) {o : Int} {b : Addr} (hd : decode bytes pc = .ok (.ifnull o, 3)) (hs : st = .ref b :: rest) (hp : pc + 3 = pc') (g : G w Q h k n pc' Ls rest) : G w Q h k n pc Ls st := by
  subst hp; exact g.adv fun T locs X _ t r => XS.ifnullNo X.here C.ex rfl (C.dec hd) hs r
theorem g_ifnonnullY (C : Cx w l Z own bytes mx rt nm rm n0) {o : Int} {b : Addr} (hd : decode bytes pc = .ok (.ifnonnull o, 3)) (hs : st = .ref b :: rest) (ho : 0 ≤ (pc : Int) + o) (hp : ((pc : Int) + o).toNat = pc') (g : G w Q h k n pc' Ls rest) : G w Q h k n pc Ls st :=
  g.adv fun T locs X _ t r => XS.ifnonnullYes X.here C.ex rfl (pc0 := pc) rfl (C.dec hd) hs ho hp r
theorem g_ifnonnullN (C : Cx w l Z own bytes mx rt nm rm n0) {o : Int} (hd : decode bytes pc = .ok (.ifnonnull o, 3)) (hs : st = .null :: rest) (hp : pc + 3 = pc') (g : G w Q h k n pc' Ls rest) : G w Q h k n pc Ls st := by
  subst hp; exact g.adv fun T locs X _ t r => XS.ifnonnullNo X.here C.ex rfl (C.dec hd) hs r
theorem g_acmp (C : Cx w l Z own bytes mx rt nm rm n0) {cd : ACond} {o : Int} {x y : Value} {same : Bool} (hd : decode bytes pc = .ok (.if_acmp cd o, 3)) (hs : st = y :: x :: rest) (h1 : x.isRef = true) (h2 : y.isRef = true) (hq : decide (x = y) = same) (ho : 0 ≤ (pc : Int) + o) (hp : pc' = if acV cd same = true then ((pc : Int) + o).toNat else pc + 3) (g : G w Q h k n pc' Ls rest) : G w Q h k n pc Ls st :=
  g.adv fun T locs X _ t r => Jvm.RoadKit.acmp (g := mkF w.m pc Ls st) X C.ex rfl h1 h2 (pc0 := pc) rfl (C.dec hd) hs hq ho hp r
theorem g_tsw (C : Cx w l Z own bytes mx rt nm rm n0) {df lo hi : Int} {offs : Array Int} {len : Nat} {o : Int} {i : Int32} (hd : decode bytes pc = .ok (.tableswitch df lo hi offs, len)) (hs : st = .int i :: rest) (hin : ¬ (i.toInt < lo ∨ i.toInt > hi)) (hoff : offs[(i.toInt - lo).toNat]? = some o) (ho : 0 ≤ (pc : Int) + o) (hp : ((pc : Int) + o).toNat = pc') (g : G w Q h k n pc' Ls rest) : G w Q h k n pc Ls st :=
  g.adv fun T locs X _ t r => XS.tswIn X.here C.ex rfl (pc0 := pc) rfl (C.dec hd) hs hin hoff ho hp r
theorem g_tswOut (C : Cx w l Z own bytes mx rt nm rm n0) {df lo hi : Int} {offs : Array Int} {len : Nat} {i : Int32} (hd : decode bytes pc = .ok (.tableswitch df lo hi offs, len)) (hs : st = .int i :: rest) (hin : i.toInt < lo ∨ i.toInt > hi) (ho : 0 ≤ (pc : Int) + df) (hp : ((pc : Int) + df).toNat = pc') (g : G w Q h k n pc' Ls rest) : G w Q h k n pc Ls st :=
  g.adv fun T locs X _ t r => XS.tswOut X.here C.ex rfl (pc0 := pc) rfl (C.dec hd) hs hin ho hp r
/-! the heap and the tables -/
theorem g_getF (C : Cx w l Z own bytes mx rt nm rm n0) {R0 O f d : String} {i : Nat} {a : Addr} {v : Value} (hw : (Jvm.Cond.fieldLink own i R0 f d).before a0 Z = true) (via : Via Z R0 O f d) (hd : decode bytes pc = .ok (.getfield i, 3)) (hs : st = .ref a :: rest) (F : Fld Z h a O f d v) (hp : pc + 3 = pc') (g : G w Q h k n pc' Ls (v :: rest)) : G w Q h k n pc Ls st := by
  subst hp; intro T locs X eT N
  obtain ⟨T', X', e', s'⟩ := getF X C.ex C.hZ C.ow (host := "") (Or.inl hw) via eT F (g := mkF w.m pc Ls st) rfl hs (C.dec hd)
  exact G.to X' e' N s' g
theorem g_getFN (C : Cx w l Z own bytes mx rt nm rm n0) {R0 O f d host : String} {i : Nat} {a : Addr} {v : Value} (hw : (Jvm.Cond.fieldLinkNest own i R0 f d host).before a0 Z = true) (via : Via Z R0 O f d) (hd : decode bytes pc = .ok (.getfield i, 3)) (hs : st = .ref a :: rest) (F : Fld Z h a O f d v) (hp : pc + 3 = pc') (g : G w Q h k n pc' Ls (v :: rest)) : G w Q h k n pc Ls st := by
  subst hp; intro T locs X eT N
  obtain ⟨T', X', e', s'⟩ := getF X C.ex C.hZ C.ow (Or.inr hw) via eT F (g := mkF w.m pc Ls st) rfl hs (C.dec hd)
  exact G.to X' e' N s' g
theorem g_getS (C : Cx w l Z own bytes mx rt nm rm n0) {R0 O f d : String} {i : Nat} {v : Value} (hw : (Jvm.Cond.fieldLink own i R0 f d).before a0 Z = true) (via : Via Z R0 O f d) (hd : decode bytes pc = .ok (.getstatic i, 3)) (F : Sta Z h O f d v) (hp : pc + 3 = pc') (g : G w Q h k n pc' Ls (v :: st)) : G w Q h k n pc Ls st := by
  subst hp; intro T locs X eT N
  obtain ⟨T', X', e', s'⟩ := getS2 X C.ex C.hZ C.ow (host := "") (Or.inl hw) via eT F (g := mkF w.m pc Ls st) rfl (C.dec hd)
  exact G.to X' e' N s' g
theorem g_getSN (C : Cx w l Z own bytes mx rt nm rm n0) {R0 O f d host : String} {i : Nat} {v : Value} (hw : (Jvm.Cond.fieldLinkNest own i R0 f d host).before a0 Z = true) (via : Via Z R0 O f d) (hd : decode bytes pc = .ok (.getstatic i, 3)) (F : Sta Z h O f d v) (hp : pc + 3 = pc') (g : G w Q h k n pc' Ls (v :: st)) : G w Q h k n pc Ls st := by
  subst hp; intro T locs X eT N
  obtain ⟨T', X', e', s'⟩ := getS2 X C.ex C.hZ C.ow (Or.inr hw) via eT F (g := mkF w.m pc Ls st) rfl (C.dec hd)
  exact G.to X' e' N s' g
theorem fr_snoc {L : List Loc} {a : Addr} {sl k : Nat} (N : Fr k L) (q : k ≤ a) : Fr k (L ++ [⟨a, sl⟩]) := N.app fun y hy => by cases List.mem_singleton.mp hy; exact q
theorem g_putF (C : Cx w l Z own bytes mx rt nm rm n0) {R0 O f d K : String} {i kk : Nat} {ty : FieldType} {a : Addr} {v old : Value} (hw : (Jvm.Cond.fieldLink own i R0 f d).before a0 Z = true) (via : Via Z R0 O f d) (hd : decode bytes pc = .ok (.putfield i, 3)) (hs : st = v :: .ref a :: rest) (F : Fld Z h a O f d old) (E : Exa Z h a K) (La : (Jvm.Cond.lays K O f d).before a0 Z = true ∨ ((Jvm.Cond.laysFinal K O f d).before a0 Z = true ∧ own = O ∧ nm = "<init>")) (wi : (Jvm.Cond.instantiable K kk).before a0 Z = true) (hty : parseFieldDescriptor d = some ty) (hn : narrow ty v = v) (hf : fits ty v = true) (ge : n0 ≤ a) (hp : pc + 3 = pc')
    (g : ∀ h', Wr h h' a (Jvm.RoadKit.slotOf Z O f d) v → G w Q h' k n pc' Ls rest) : G w Q h k n pc Ls st := by
  subst hp; intro T locs X eT N
  obtain ⟨T', h', X', e', W, s'⟩ := putF X C.ex C.hZ C.ow (host := "") (Or.inl hw) via eT F E (La.imp id fun q => ⟨q.1, q.2.1, C.mn.trans q.2.2⟩) wi hty hn hf (g := mkF w.m pc Ls st) rfl hs (C.dec hd)
  exact G.to X' e' (fr_snoc N (C.nn ▸ ge)) s' (g h' W)
theorem g_putFN (C : Cx w l Z own bytes mx rt nm rm n0) {R0 O f d K : String} {i kk : Nat} {ty : FieldType} {a : Addr} {v v' old : Value} (hw : (Jvm.Cond.fieldLink own i R0 f d).before a0 Z = true) (via : Via Z R0 O f d) (hd : decode bytes pc = .ok (.putfield i, 3)) (hs : st = v :: .ref a :: rest) (F : Fld Z h a O f d old) (E : Exa Z h a K) (La : (Jvm.Cond.lays K O f d).before a0 Z = true ∨ ((Jvm.Cond.laysFinal K O f d).before a0 Z = true ∧ own = O ∧ nm = "<init>")) (wi : (Jvm.Cond.instantiable K kk).before a0 Z = true) (hty : parseFieldDescriptor d = some ty) (hn : narrow ty v = v') (hf : fits ty v' = true) (ge : n0 ≤ a) (hp : pc + 3 = pc')
    (g : ∀ h', Wr h h' a (Jvm.RoadKit.slotOf Z O f d) v' → G w Q h' k n pc' Ls rest) : G w Q h k n pc Ls st := by
  subst hp; intro T locs X eT N
  obtain ⟨T', h', X', e', W, s'⟩ := putFN X C.ex C.hZ C.ow hw via eT F E (La.imp id fun q => ⟨q.1, q.2.1, C.mn.trans q.2.2⟩) wi hty hn hf (g := mkF w.m pc Ls st) rfl hs (C.dec hd)
  exact G.to X' e' (fr_snoc N (C.nn ▸ ge)) s' (g h' W)
theorem g_new (C : Cx w l Z own bytes mx rt nm rm n0) {K : String} {i ns : Nat} (hw : (Jvm.Cond.classLink own i K).before a0 Z = true) (wi : (Jvm.Cond.instantiable K ns).before a0 Z = true) (wz : (Jvm.Cond.initialized K).before a0 Z = true) (hd : decode bytes pc = .ok (.new i, 3)) (hc : k' ≤ rm.cells) (hl : n' ≤ rm.slots) (ek : k + 1 = k') (en : n + ns = n') (hp : pc + 3 = pc')
    (g : ∀ h' a, a = h.size → Ext h h' → Exa Z h' a K → (∀ {O f d : String} {ty : FieldType}, Laid Z a0 K O f d → parseFieldDescriptor d = some ty → Fld Z h' a O f d (defaultValue ty)) → G w Q h' k' n' pc' Ls (.ref a :: st)) : G w Q h k n pc Ls st := by
  subst hp ek en; intro T locs X eT N
  obtain ⟨T', h', X', e', E, A, D, -, s'⟩ := newO X C.ex C.hZ C.ow hw wi wz eT (g := mkF w.m pc Ls st) rfl (C.dec hd) (by rw [C.ro]; exact hc) (by rw [C.ro]; exact hl)
  exact G.to X' e' N s' (g h' _ rfl E A D)
theorem g_initO (C : Cx w l Z own bytes mx rt nm rm n0) {i : Nat} {a : Addr} (hw : (Jvm.Cond.methodLink own i Lib.objectInit).before a0 Z = true) (w2 : (Jvm.Cond.instanceMethod Lib.objectInit).before a0 Z = true) (w3 : (Jvm.Cond.code Lib.objectInit ⟨#[0xb1]⟩ 1 none).before a0 Z = true) (hd : decode bytes pc = .ok (.invokespecial i, 3)) (hs : st = .ref a :: rest) (hz : Ls.size = mx) (hf : 1 ≤ rm.frames) (hl : (rest.map fun v => v.category).sum + 12 ≤ rm.locals) (hp : pc + 3 = pc') (g : G w Q h k n pc' Ls rest) : G w Q h k n pc Ls st := by
  subst hp; intro T locs X eT N
  obtain ⟨T', X', e', s'⟩ := initO X C.ex C.hZ C.ow hw w2 w3 eT (g := mkF w.m pc Ls st) rfl (hz.trans C.ml.symm) hs (C.dec hd) (by rw [C.ro]; exact hf) (W := (rest.map fun v => v.category).sum) (by show 2 * 0 + _ ≤ _; omega) (by rw [C.ro]; exact hl)
  exact G.to X' e' N s' g
theorem g_cast (C : Cx w l Z own bytes mx rt nm rm n0) {K : String} {i : Nat} {a : Addr} (hw : (Jvm.Cond.classLink own i K).before a0 Z = true) (hd : decode bytes pc = .ok (.checkcast i, 3)) (hs : st = .ref a :: rest) (F : Ins Z h a K true) (hp : pc + 3 = pc') (g : G w Q h k n pc' Ls st) : G w Q h k n pc Ls st := by
  subst hp; intro T locs X eT N
  obtain ⟨T', X', e', s'⟩ := castY X C.ex C.hZ C.ow hw eT F (g := mkF w.m pc Ls st) rfl hs (C.dec hd)
  exact G.to X' e' N s' g
theorem g_instY (C : Cx w l Z own bytes mx rt nm rm n0) {K : String} {i : Nat} {a : Addr} (hw : (Jvm.Cond.classLink own i K).before a0 Z = true) (hd : decode bytes pc = .ok (.instanceof i, 3)) (hs : st = .ref a :: rest) (F : Ins Z h a K true) (hp : pc + 3 = pc') (g : G w Q h k n pc' Ls (.int 1 :: rest)) : G w Q h k n pc Ls st := by
  subst hp; intro T locs X eT N
  obtain ⟨T', X', e', s'⟩ := instY X C.ex C.hZ C.ow hw eT F (g := mkF w.m pc Ls st) rfl hs (C.dec hd)
  exact G.to X' e' N s' g
theorem g_instN (C : Cx w l Z own bytes mx rt nm rm n0) {K B : String} {i : Nat} {a : Addr} (hw : (Jvm.Cond.classLink own i K).before a0 Z = true) (hd : decode bytes pc = .ok (.instanceof i, 3)) (hs : st = .ref a :: rest) (E : Exa Z h a B) (F : ∃ c t, Z.vm.findClass B = some c ∧ Z.vm.findClass K = some t ∧ Z.vm.assignable c t = false) (hp : pc + 3 = pc') (g : G w Q h k n pc' Ls (.int 0 :: rest)) : G w Q h k n pc Ls st := by
  subst hp; intro T locs X eT N
  obtain ⟨T', X', e', s'⟩ := instNo X C.ex C.hZ C.ow hw eT E F (g := mkF w.m pc Ls st) rfl hs (C.dec hd)
  exact G.to X' e' N s' g
theorem g_newP (C : Cx w l Z own bytes mx rt nm rm n0) {aty : ArrayType} {z : Int32} {cap : Nat} (hw : (Jvm.Cond.arrayClass (newarray.typeOf aty)).before a0 Z = true) (hd : decode bytes pc = .ok (.newarray aty, 2)) (hs : st = .int z :: rest) (hn : ¬ z < 0) (hcap : z.toNatClampNeg ≤ cap) (hb' : cap * 8 ≤ 536870912) (hc : k' ≤ rm.cells) (hl : n' ≤ rm.slots) (ek : k + 1 = k') (en : n + cap = n') (hp : pc + 2 = pc')
    (g : ∀ h' a kA, a = h.size → Ext h h' → Arv Z h' a kA (newarray.typeOf aty) z [] (defaultValue (newarray.typeOf aty)) → G w Q h' k' n' pc' Ls (.ref a :: rest)) : G w Q h k n pc Ls st := by
  subst hp ek en; intro T locs X eT N
  obtain ⟨T', h', kA, X', e', E, A, s'⟩ := newP X C.ex C.hZ hw eT (g := mkF w.m pc Ls st) rfl (C.dec hd) hs hn hcap hb' (by rw [C.ro]; exact hc) (by rw [C.ro]; exact hl)
  exact G.to X' e' N s' (g h' _ kA rfl E (Arv.new A hn))
theorem g_newR (C : Cx w l Z own bytes mx rt nm rm n0) {K : String} {i : Nat} {z : Int32} {cap : Nat} (hw : (Jvm.Cond.classLink own i K).before a0 Z = true) (w2 : (Jvm.Cond.arrayOver (.object K)).before a0 Z = true) (hd : decode bytes pc = .ok (.anewarray i, 3)) (hs : st = .int z :: rest) (hn : ¬ z < 0) (hcap : z.toNatClampNeg ≤ cap) (hb' : cap * 8 ≤ 536870912) (hc : k' ≤ rm.cells) (hl : n' ≤ rm.slots) (ek : k + 1 = k') (en : n + cap = n') (hp : pc + 3 = pc')
    (g : ∀ h' a kA, a = h.size → Ext h h' → Arv Z h' a kA (.object K) z [] .null → Ovr Z kA K → G w Q h' k' n' pc' Ls (.ref a :: rest)) : G w Q h k n pc Ls st := by
  subst hp ek en; intro T locs X eT N
  obtain ⟨T', h', kA, X', e', E, A, O, s'⟩ := newR X C.ex C.hZ C.ow hw w2 eT (g := mkF w.m pc Ls st) rfl (C.dec hd) hs hn hcap hb' (by rw [C.ro]; exact hc) (by rw [C.ro]; exact hl)
  exact G.to X' e' N s' (g h' _ kA rfl E (Arv.new A hn) O)
theorem g_newPE (C : Cx w l Z own bytes mx rt nm rm n0) {aty : ArrayType} {z : Int32} {cap : Nat} {ad : String} (hw : (Jvm.Cond.arrayClass (newarray.typeOf aty)).before a0 Z = true) (had : "[" ++ (newarray.typeOf aty).toString = ad) (hd : decode bytes pc = .ok (.newarray aty, 2)) (hs : st = .int z :: rest) (hn : ¬ z < 0) (hcap : z.toNatClampNeg ≤ cap) (hb' : cap * 8 ≤ 536870912) (hc : k' ≤ rm.cells) (hl : n' ≤ rm.slots) (ek : k + 1 = k') (en : n + cap = n') (hp : pc + 2 = pc')
    (g : ∀ h' a kA, a = h.size → Ext h h' → Arv Z h' a kA (newarray.typeOf aty) z [] (defaultValue (newarray.typeOf aty)) → Exa Z h' a ad → G w Q h' k' n' pc' Ls (.ref a :: rest)) : G w Q h k n pc Ls st := by
  subst hp ek en; intro T locs X eT N
  obtain ⟨T', h', kA, X', e', E, A, B, s'⟩ := newPE X C.ex C.hZ hw eT (g := mkF w.m pc Ls st) rfl (C.dec hd) hs hn hcap hb' (by rw [C.ro]; exact hc) (by rw [C.ro]; exact hl) had
  exact G.to X' e' N s' (g h' _ kA rfl E (Arv.new A hn) B)
theorem g_newRA (C : Cx w l Z own bytes mx rt nm rm n0) {K ad : String} {i : Nat} {ty : FieldType} {z : Int32} {cap : Nat} (hC : (FieldType.array ty).toString = K) (had : "[" ++ K = ad) (hw : (Jvm.Cond.classLink own i K).before a0 Z = true) (w2 : (Jvm.Cond.arrayOver (.array ty)).before a0 Z = true) (hd : decode bytes pc = .ok (.anewarray i, 3)) (hs : st = .int z :: rest) (hn : ¬ z < 0) (hcap : z.toNatClampNeg ≤ cap) (hb' : cap * 8 ≤ 536870912) (hc : k' ≤ rm.cells) (hl : n' ≤ rm.slots) (ek : k + 1 = k') (en : n + cap = n') (hp : pc + 3 = pc')
    (g : ∀ h' a kA, a = h.size → Ext h h' → Arv Z h' a kA (.array ty) z [] .null → Exa Z h' a ad → OvrA Z kA ty K → G w Q h' k' n' pc' Ls (.ref a :: rest)) : G w Q h k n pc Ls st := by
  subst hp ek en; intro T locs X eT N
  obtain ⟨T', h', kA, X', e', E, A, B, O, s'⟩ := newRA X C.ex C.hZ C.ow hC hw w2 eT (g := mkF w.m pc Ls st) rfl (C.dec hd) hs hn hcap hb' (by rw [C.ro]; exact hc) (by rw [C.ro]; exact hl) had
  exact G.to X' e' N s' (g h' _ kA rfl E (Arv.new A hn) B O)
theorem stoA {h : Heap} {a y : Addr} {kA : ClassId} {t0 ty : FieldType} {K : String} {z : Int32} {vs : List Value} {dv : Value} (A : Arv Z h a kA t0 z vs dv) (O : OvrA Z kA ty K) (E : Exa Z h y K) : Sto Z h a (.ref y) := by
  obtain ⟨c, Ar, q, -⟩ := A; exact Sto.ofVA Ar q O (Ins.self E)
theorem stoR {h : Heap} {a y : Addr} {kA : ClassId} {t0 : FieldType} {K : String} {z : Int32} {vs : List Value} {dv : Value} (A : Arv Z h a kA t0 z vs dv) (O : Ovr Z kA K) (I : Ins Z h y K true) : Sto Z h a (.ref y) := by
  obtain ⟨c, Ar, q, -⟩ := A; exact Sto.ofV Ar q O I
theorem g_cpA (C : Cx w l Z own bytes mx rt nm rm n0) {i : Nat} {a b : Addr} {k1 k2 : ClassId} {ty ty' : FieldType} {z z' sp dp nn : Int32} {vs vd us : List Value} {dv dd : Value}
    (w1 : (Jvm.Cond.methodLink own i Jvm.Stand.acN).before a0 Z = true) (w2 : (Jvm.Cond.native Jvm.Stand.acN).before a0 Z = true) (w3 : (Jvm.Cond.static Jvm.Stand.acN).before a0 Z = true) (w4 : (Jvm.Cond.initialized "java/lang/System").before a0 Z = true)
    (hd : decode bytes pc = .ok (.invokestatic i, 3)) (hs : st = .int nn :: .int dp :: .ref b :: .int sp :: .ref a :: rest) (hz : Ls.size = mx) (A : Arv Z h a k1 ty z vs dv) (B : Arv Z h b k2 ty' z' vd dd) (hty : (ty = ty' ∧ refKind ty = false) ∨ (refKind ty = true ∧ refKind ty' = true ∧ StoL Z h b us))
    (h1 : ¬ sp < 0) (h2 : ¬ dp < 0) (h3 : ¬ nn < 0) (h4 : sp.toNatClampNeg + nn.toNatClampNeg ≤ z.toNatClampNeg) (h5 : dp.toNatClampNeg + nn.toNatClampNeg ≤ z'.toNatClampNeg) (hus : us = (List.range nn.toNatClampNeg).map fun i => vs.getD (sp.toNatClampNeg + i) dv) (hlen : dp.toNatClampNeg + nn.toNatClampNeg ≤ vd.length) (ge : n0 ≤ b)
    (hf : 1 ≤ rm.frames) (hlo : (rest.map fun v => v.category).sum + (nativeFrameWords "java/lang/System" "arraycopy" 5 + 11) ≤ rm.locals) (hp : pc + 3 = pc')
    (g : ∀ h', Keep h h' [b] → Arv Z h' b k2 ty' z' (vd.take dp.toNatClampNeg ++ us ++ vd.drop (dp.toNatClampNeg + nn.toNatClampNeg)) dd → G w Q h' k n pc' Ls rest) : G w Q h k n pc Ls st := by
  subst hp; intro T locs X eT N
  obtain ⟨T', h', L, X', e', N', K, A', s'⟩ := cpA X C.ex C.hZ C.ow w1 w2 w3 w4 eT A B hty h1 h2 h3 h4 h5 hus hlen (n0 := w.n0) N (C.nn ▸ ge) (g := mkF w.m pc Ls st) rfl (hz.trans C.ml.symm) hs (C.dec hd) (by rw [C.ro]; exact hf) (W := (rest.map fun v => v.category).sum) (by show 2 * 0 + _ ≤ _; omega) (by rw [C.ro]; exact hlo)
  exact G.to X' e' N' s' (g h' K A')
/-! arrays by their values: an array fact (Arv) with a list of all its values -/
theorem arv_inb {a : Addr} {kA : ClassId} {ty : FieldType} {z j : Int32} {vs : List Value} {dv : Value} (A : Arv Z h a kA ty z vs dv) (q1 : ¬ j < 0) (q2 : j < z) : ∃ cl, Arr Z h a cl ty ∧ ¬ (j < 0 ∨ cl.slots.size ≤ j.toNatClampNeg) ∧ cl.slots[j.toNatClampNeg]? = some (vs.getD j.toNatClampNeg dv) := by
  obtain ⟨cl, Ar, -, S, -, H, -⟩ := A
  have hi := inb_of S ⟨q1, q2⟩
  exact ⟨cl, Ar, hi, H.at hi rfl⟩
theorem arv_put {h' : Heap} {a : Addr} {kA : ClassId} {ty : FieldType} {z j : Int32} {vs : List Value} {dv v : Value} (A : Arv Z h a kA ty z vs dv) (hv : fits ty v = true) (W : Wr h h' a j.toNatClampNeg v) {i : Nat} (hj : j.toNatClampNeg = i) (hi : i < vs.length) : Arv Z h' a kA ty z (vs.set i v) dv := by
  obtain ⟨cl, Ar, q1, S, q3, H, F⟩ := A
  exact Arv.set Ar q1 S q3 H F hv W i hj hi

theorem g_iaload (C : Cx w l Z own bytes mx rt nm rm n0) {a : Addr} {kA : ClassId} {z j : Int32} {vs : List Value} {dv : Value} {x : Int32} (hd : decode bytes pc = .ok (.iaload, 1)) (hs : st = .int j :: .ref a :: rest) (A : Arv Z h a kA .int z vs dv) (q1 : ¬ j < 0) (q2 : j < z) (hv : vs.getD j.toNatClampNeg dv = .int x) (hp : pc + 1 = pc') (g : G w Q h k n pc' Ls (.int x :: rest)) : G w Q h k n pc Ls st := by
  subst hp; intro T locs X eT N
  obtain ⟨cl, Ar, hi, hg⟩ := arv_inb A q1 q2
  rw [hv] at hg
  exact G.to X eT N (fun t r => X.iaload C.ex (j := j) (v := .int x) (by rw [eT]; exact Ar.1) (State.isArrayOf_alike C.hZ.alike Ar.2.1) Ar.2.2 hi hg (g := mkF w.m pc Ls st) rfl hs (C.dec hd) _ r) g
theorem g_laload (C : Cx w l Z own bytes mx rt nm rm n0) {a : Addr} {kA : ClassId} {z j : Int32} {vs : List Value} {dv : Value} {x : Int64} (hd : decode bytes pc = .ok (.laload, 1)) (hs : st = .int j :: .ref a :: rest) (A : Arv Z h a kA .long z vs dv) (q1 : ¬ j < 0) (q2 : j < z) (hv : vs.getD j.toNatClampNeg dv = .long x) (hp : pc + 1 = pc') (g : G w Q h k n pc' Ls (.long x :: rest)) : G w Q h k n pc Ls st := by
  subst hp; intro T locs X eT N
  obtain ⟨cl, Ar, hi, hg⟩ := arv_inb A q1 q2
  rw [hv] at hg
  exact G.to X eT N (fun t r => X.laload C.ex (j := j) (v := .long x) (by rw [eT]; exact Ar.1) (State.isArrayOf_alike C.hZ.alike Ar.2.1) Ar.2.2 hi hg (g := mkF w.m pc Ls st) rfl hs (C.dec hd) _ r) g
theorem g_baload (C : Cx w l Z own bytes mx rt nm rm n0) {a : Addr} {kA : ClassId} {z j : Int32} {vs : List Value} {dv : Value} {x : Int32} (hd : decode bytes pc = .ok (.baload, 1)) (hs : st = .int j :: .ref a :: rest) (A : Arv Z h a kA .byte z vs dv) (q1 : ¬ j < 0) (q2 : j < z) (hv : vs.getD j.toNatClampNeg dv = .int x) (hp : pc + 1 = pc') (g : G w Q h k n pc' Ls (.int x :: rest)) : G w Q h k n pc Ls st := by
  subst hp; intro T locs X eT N
  obtain ⟨cl, Ar, hi, hg⟩ := arv_inb A q1 q2
  rw [hv] at hg
  exact G.to X eT N (fun t r => X.baloadBytes C.ex (j := j) (v := .int x) (by rw [eT]; exact Ar.1) (State.isArrayOf_alike C.hZ.alike Ar.2.1) Ar.2.2 hi hg (g := mkF w.m pc Ls st) rfl hs (C.dec hd) _ r) g
theorem g_aaload (C : Cx w l Z own bytes mx rt nm rm n0) {a : Addr} {kA : ClassId} {ty : FieldType} {z j : Int32} {vs : List Value} {dv x : Value} (hd : decode bytes pc = .ok (.aaload, 1)) (hs : st = .int j :: .ref a :: rest) (A : Arv Z h a kA ty z vs dv) (hty : ty.isReference = true) (q1 : ¬ j < 0) (q2 : j < z) (hv : vs.getD j.toNatClampNeg dv = x) (hp : pc + 1 = pc') (g : G w Q h k n pc' Ls (x :: rest)) : G w Q h k n pc Ls st := by
  subst hp; intro T locs X eT N
  obtain ⟨cl, Ar, hi, hg⟩ := arv_inb A q1 q2
  rw [hv] at hg
  exact G.to X eT N (fun t r => X.aaload C.ex (j := j) (v := x) (by rw [eT]; exact Ar.1) (State.isArrayOf_alike C.hZ.alike Ar.2.1) hty Ar.2.2 hi hg (g := mkF w.m pc Ls st) rfl hs (C.dec hd) _ r) g
theorem g_alen (C : Cx w l Z own bytes mx rt nm rm n0) {a : Addr} {kA : ClassId} {ty : FieldType} {z : Int32} {vs : List Value} {dv : Value} (hd : decode bytes pc = .ok (.arraylength, 1)) (hs : st = .ref a :: rest) (A : Arv Z h a kA ty z vs dv) (hp : pc + 1 = pc') (g : G w Q h k n pc' Ls (.int z :: rest)) : G w Q h k n pc Ls st := by
  subst hp; intro T locs X eT N
  obtain ⟨cl, Ar, -, S, q3, -, -⟩ := A
  exact G.to X eT N (fun t r => X.arraylength C.ex (by rw [eT]; exact Ar.1) (State.isArrayOf_alike C.hZ.alike Ar.2.1) (g := mkF w.m pc Ls st) rfl hs (C.dec hd) _ (by rw [len_of S q3]; exact r)) g

theorem g_iastore (C : Cx w l Z own bytes mx rt nm rm n0) {a : Addr} {kA : ClassId} {z j : Int32} {vs : List Value} {dv : Value} {x : Int32} (hd : decode bytes pc = .ok (.iastore, 1)) (hs : st = .int x :: .int j :: .ref a :: rest) (A : Arv Z h a kA .int z vs dv) (q1 : ¬ j < 0) (q2 : j < z) (ge : n0 ≤ a) (hp : pc + 1 = pc')
    (g : ∀ h', Wr h h' a j.toNatClampNeg (.int x) → G w Q h' k n pc' Ls rest) : G w Q h k n pc Ls st := by
  subst hp; intro T locs X eT N
  obtain ⟨cl, Ar, hi, -⟩ := arv_inb A q1 q2
  obtain ⟨T', h', X', e', W, s'⟩ := stI X C.ex C.hZ eT Ar (j := j) hi (g := mkF w.m pc Ls st) rfl hs (C.dec hd)
  exact G.to X' e' (fr_snoc N (C.nn ▸ ge)) s' (g h' W)
theorem g_lastore (C : Cx w l Z own bytes mx rt nm rm n0) {a : Addr} {kA : ClassId} {z j : Int32} {vs : List Value} {dv : Value} {x : Int64} (hd : decode bytes pc = .ok (.lastore, 1)) (hs : st = .long x :: .int j :: .ref a :: rest) (A : Arv Z h a kA .long z vs dv) (q1 : ¬ j < 0) (q2 : j < z) (ge : n0 ≤ a) (hp : pc + 1 = pc')
    (g : ∀ h', Wr h h' a j.toNatClampNeg (.long x) → G w Q h' k n pc' Ls rest) : G w Q h k n pc Ls st := by
  subst hp; intro T locs X eT N
  obtain ⟨cl, Ar, hi, -⟩ := arv_inb A q1 q2
  obtain ⟨T', h', X', e', W, s'⟩ := stJ X C.ex C.hZ eT Ar (j := j) hi (g := mkF w.m pc Ls st) rfl hs (C.dec hd)
  exact G.to X' e' (fr_snoc N (C.nn ▸ ge)) s' (g h' W)
theorem g_bastore (C : Cx w l Z own bytes mx rt nm rm n0) {a : Addr} {kA : ClassId} {z j : Int32} {vs : List Value} {dv : Value} {x : Int32} (hd : decode bytes pc = .ok (.bastore, 1)) (hs : st = .int x :: .int j :: .ref a :: rest) (A : Arv Z h a kA .byte z vs dv) (q1 : ¬ j < 0) (q2 : j < z) (ge : n0 ≤ a) (hp : pc + 1 = pc')
    (g : ∀ h', Wr h h' a j.toNatClampNeg (.int (nar .byte x)) → G w Q h' k n pc' Ls rest) : G w Q h k n pc Ls st := by
  subst hp; intro T locs X eT N
  obtain ⟨cl, Ar, hi, -⟩ := arv_inb A q1 q2
  obtain ⟨T', h', X', e', W, s'⟩ := stB X C.ex C.hZ eT Ar (j := j) hi (g := mkF w.m pc Ls st) rfl hs (C.dec hd)
  exact G.to X' e' (fr_snoc N (C.nn ▸ ge)) s' (g h' W)
theorem g_aastore (C : Cx w l Z own bytes mx rt nm rm n0) {a : Addr} {kA : ClassId} {ty : FieldType} {z j : Int32} {vs : List Value} {dv x : Value} (hd : decode bytes pc = .ok (.aastore, 1)) (hs : st = x :: .int j :: .ref a :: rest) (A : Arv Z h a kA ty z vs dv) (hty : ty.isReference = true) (F : Sto Z h a x) (q1 : ¬ j < 0) (q2 : j < z) (ge : n0 ≤ a) (hp : pc + 1 = pc')
    (g : ∀ h', Wr h h' a j.toNatClampNeg x → G w Q h' k n pc' Ls rest) : G w Q h k n pc Ls st := by
  subst hp; intro T locs X eT N
  obtain ⟨cl, Ar, hi, -⟩ := arv_inb A q1 q2
  obtain ⟨T', h', X', e', W, s'⟩ := stR X C.ex C.hZ eT Ar (j := j) hi hty F (g := mkF w.m pc Ls st) rfl hs (C.dec hd)
  exact G.to X' e' (fr_snoc N (C.nn ▸ ge)) s' (g h' W)
/-! returns -/
theorem g_ret (C : Cx w l Z own bytes mx (some t) nm rm n0) {v : Value} {i : Instr} (hd : decode bytes pc = .ok (i, 1)) (hs : st = v :: rest) (hn : narrow t v = v)
    (hi : (i = .ireturn ∧ (t = .int ∨ t = .boolean ∨ t = .byte ∨ t = .char ∨ t = .short) ∧ ∃ z, v = .int z) ∨ (i = .lreturn ∧ t = .long ∧ ∃ z, v = .long z) ∨ (i = .dreturn ∧ t = .double ∧ ∃ z, v = .double z) ∨ (i = .freturn ∧ t = .float ∧ ∃ z, v = .float z) ∨ (i = .areturn ∧ t.isReference = true ∧ v.isRef = true))
    (hk : k ≤ rm.cells) (hnn : n ≤ rm.slots) (q : Q (some v) h) : G w Q h k n pc Ls st := by
  subst hs; intro T locs X eT N
  obtain ⟨fs, hr, hrun, hended, hW, hsame⟩ := X.leave (v := some v) (fun h => by rw [C.ret] at h; cases h) C.lk
  exact ⟨_, _, retOut X C.ex C.ret hn hi (C.dec hd) hr, hrun, hended, _, locs, rfl, ⟨by show Q _ T.heap; rw [eT]; exact q, N⟩, ⟨_, rfl⟩, hW, hsame.mono (by rw [C.ro]; exact hk) (by rw [C.ro]; exact hnn)⟩
theorem g_ireturn (C : Cx w l Z own bytes mx (some .int) nm rm n0) {z : Int32} (hd : decode bytes pc = .ok (.ireturn, 1)) (hs : st = .int z :: rest) (hk : k ≤ rm.cells) (hnn : n ≤ rm.slots) (q : Q (some (.int z)) h) : G w Q h k n pc Ls st :=
  g_ret C hd hs rfl (Or.inl ⟨rfl, Or.inl rfl, z, rfl⟩) hk hnn q
theorem g_zreturn (C : Cx w l Z own bytes mx (some .boolean) nm rm n0) {z : Int32} (hd : decode bytes pc = .ok (.ireturn, 1)) (hs : st = .int z :: rest) (hn : narrow .boolean (.int z) = .int z) (hk : k ≤ rm.cells) (hnn : n ≤ rm.slots) (q : Q (some (.int z)) h) : G w Q h k n pc Ls st :=
  g_ret C hd hs hn (Or.inl ⟨rfl, Or.inr (Or.inl rfl), z, rfl⟩) hk hnn q
theorem g_breturn (C : Cx w l Z own bytes mx (some .byte) nm rm n0) {z : Int32} (hd : decode bytes pc = .ok (.ireturn, 1)) (hs : st = .int z :: rest) (hn : narrow .byte (.int z) = .int z) (hk : k ≤ rm.cells) (hnn : n ≤ rm.slots) (q : Q (some (.int z)) h) : G w Q h k n pc Ls st :=
  g_ret C hd hs hn (Or.inl ⟨rfl, Or.inr (Or.inr (Or.inl rfl)), z, rfl⟩) hk hnn q
theorem g_lreturn (C : Cx w l Z own bytes mx (some .long) nm rm n0) {z : Int64} (hd : decode bytes pc = .ok (.lreturn, 1)) (hs : st = .long z :: rest) (hk : k ≤ rm.cells) (hnn : n ≤ rm.slots) (q : Q (some (.long z)) h) : G w Q h k n pc Ls st :=
  g_ret C hd hs rfl (Or.inr (Or.inl ⟨rfl, rfl, z, rfl⟩)) hk hnn q
theorem g_areturn (C : Cx w l Z own bytes mx (some t) nm rm n0) {v : Value} (hd : decode bytes pc = .ok (.areturn, 1)) (hs : st = v :: rest) (ht : t.isReference = true) (hv : v.isRef = true) (hn : narrow t v = v) (hk : k ≤ rm.cells) (hnn : n ≤ rm.slots) (q : Q (some v) h) : G w Q h k n pc Ls st :=
  g_ret C hd hs hn (Or.inr (Or.inr (Or.inr (Or.inr ⟨rfl, ht, hv⟩)))) hk hnn q
theorem g_return (C : Cx w l Z own bytes mx none nm rm n0) (hd : decode bytes pc = .ok (.return_, 1)) (hs : st = []) (hk : k ≤ rm.cells) (hnn : n ≤ rm.slots) (q : Q none h) : G w Q h k n pc Ls st := by
  subst hs; intro T locs X eT N
  obtain ⟨fs, hr, hrun, hended, hW, hsame⟩ := X.leave (v := none) (fun _ => rfl) C.lk
  exact ⟨_, _, X.returnOut C.ex C.ret (C.dec hd) hr, hrun, hended, _, locs, rfl, ⟨by show Q _ T.heap; rw [eT]; exact q, N⟩, ⟨_, rfl⟩, hW, hsame.mono (by rw [C.ro]; exact hk) (by rw [C.ro]; exact hnn)⟩
/-! calls by the callee's contract -/
theorem g_fin {rm' : Room} {Q' : Option Value → Heap → Prop} {T : State} {locs : List Loc} {as : Array Value} {v : Option Value} {B : Pt} {A : Pt} (C : Cx w l Z own bytes mx rt nm rm n0) (hA : A.locs = locs ∧ A.cells = k ∧ A.slots = n)
    (X' : Stand w.p w.l w.e w.R w.s w.m w.args w.below w.meth w.c B.U B.locs B.cells B.slots) (hQ : ∃ L, (Q' v B.U.heap ∧ Fr n0 L) ∧ B.locs = A.locs ++ L ∧ B.cells = A.cells + rm'.cells ∧ B.slots = A.slots + rm'.slots) (N : Fr w.n0 locs)
    (g : ∀ v h', Q' v h' → G w Q h' (k + rm'.cells) (n + rm'.slots) pc' Ls (psh v rest)) (s' : ∀ t, Steps w.p.tables w.e w.below (B.U.setTop (mkF w.m pc' Ls (v.toList ++ rest))) t → Steps w.p.tables w.e w.below (T.setTop (mkF w.m pc Ls st)) t) : Ends w Q (T.setTop (mkF w.m pc Ls st)) := by
  obtain ⟨T', L', k', n'⟩ := B
  obtain ⟨L, ⟨hq, hL⟩, e1, e2, e3⟩ := hQ
  obtain ⟨a1, a2, a3⟩ := hA
  dsimp only [Pt.U, Pt.locs, Pt.cells, Pt.slots] at X' hq e1 e2 e3 s' a1 a2 a3
  subst a1 a2 a3 e1 e2 e3
  rw [psh_eq] at s'
  exact G.to X' rfl (N.app (C.nn ▸ hL)) s' (g v _ hq)
theorem g_callS (C : Cx w l Z own bytes mx rt nm rm n0) {y : MethodName} {i mL : Nat} {bs : ByteArray} {rt' : Option FieldType} {rm' : Room} {Q' : Option Value → Heap → Prop} {argsL : List Value} {ps : List FieldType} {r : Option FieldType}
    (w1 : (Jvm.Cond.methodLink own i y).before a0 Z = true) (w2 : (Jvm.Cond.static y).before a0 Z = true) (w3 : (Jvm.Cond.initialized y.cls).before a0 Z = true) (w4 : (Jvm.Cond.code y bs mL rt').before a0 Z = true) (hy : y.cls ≠ "java/lang/invoke/MethodHandle" ∧ y.cls ≠ "java/lang/invoke/VarHandle")
    (hd : decode bytes pc = .ok (.invokestatic i, 3)) (pd : parseMethodDescriptor y.desc = some ⟨ps, r⟩) (hlen : argsL.length = ps.length) (hst : st = argsL.reverse ++ rest) (hz : Ls.size = mx)
    (K : Con l Z y bs mL rt' rm' argsL.toArray h n0 Q') (hf : rm'.frames + 1 ≤ rm.frames) (hl : (rest.map fun v => v.category).sum + (mL + 11) + rm'.locals ≤ rm.locals) (hc : k' ≤ rm.cells) (hn : n' ≤ rm.slots) (ek : k + rm'.cells = k') (en : n + rm'.slots = n') (hp : pc + 3 = pc')
    (g : ∀ v h', Q' v h' → G w Q h' k' n' pc' Ls (psh v rest)) : G w Q h k n pc Ls st := by
  subst hp ek en; intro T locs X eT N
  have hl0 : w.l = l := C.1
  subst hl0
  obtain ⟨v, vm₁, B, -, X', hQ, s'⟩ := Jvm.LawKit.callS X C.ex C.ow (mvT C.hZ w1) (mvT C.hZ w2) (mvT C.hZ w3) (mvT C.hZ w4) hy (backOf (W := (rest.map fun v => v.category).sum) (Q := fun v h L => Q' v h ∧ Fr n0 L) (K []) C.hZ w4 w3 (by rw [C.ro]; exact hf) (by rw [C.ro]; exact hl)) (g := mkF w.m pc Ls st) rfl (hz.trans C.ml.symm) (argsL := argsL) (rest := rest) (lenOf pd hlen) hst (by show 2 * 0 + _ ≤ _; omega) (C.dec hd) (fun _ _ => ⟨rfl, eT, by rw [C.ro]; exact hc, by rw [C.ro]; exact hn⟩)
  exact g_fin (T := T) (as := argsL.toArray) (A := (⟨T.setVm vm₁, locs, k, n⟩ : Pt)) C ⟨rfl, rfl, rfl⟩ X' hQ N g s'
theorem g_special (C : Cx w l Z own bytes mx rt nm rm n0) {y : MethodName} {i mL : Nat} {bs : ByteArray} {rm' : Room} {Q' : Option Value → Heap → Prop} {a : Addr} {argsL : List Value} {ps : List FieldType} {r : Option FieldType}
    (w1 : (Jvm.Cond.methodLink own i y).before a0 Z = true) (w2 : (Jvm.Cond.instanceMethod y).before a0 Z = true) (w3 : (Jvm.Cond.initialized y.cls).before a0 Z = true) (w4 : (Jvm.Cond.code y bs mL none).before a0 Z = true) (hy : y.cls ≠ "java/lang/invoke/MethodHandle" ∧ y.cls ≠ "java/lang/invoke/VarHandle") (hy1 : y.name = "<init>")
    (hd : decode bytes pc = .ok (.invokespecial i, 3)) (pd : parseMethodDescriptor y.desc = some ⟨ps, r⟩) (hlen : argsL.length = ps.length) (hst : st = argsL.reverse ++ .ref a :: rest) (hz : Ls.size = mx)
    (K : Con l Z y bs mL none rm' (.ref a :: argsL).toArray h n0 Q') (hf : rm'.frames + 1 ≤ rm.frames) (hl : (rest.map fun v => v.category).sum + (mL + 11) + rm'.locals ≤ rm.locals) (hc : k' ≤ rm.cells) (hn : n' ≤ rm.slots) (ek : k + rm'.cells = k') (en : n + rm'.slots = n') (hp : pc + 3 = pc')
    (g : ∀ v h', Q' v h' → G w Q h' k' n' pc' Ls (psh v rest)) : G w Q h k n pc Ls st := by
  subst hp ek en; intro T locs X eT N
  have hl0 : w.l = l := C.1
  subst hl0
  obtain ⟨v, vm₁, B, -, X', hQ, s'⟩ := X.specialBack C.ex hy1 C.ow (mvT C.hZ w1) (mvT C.hZ w2) (mvT C.hZ w4) hy (backOf (W := (rest.map fun v => v.category).sum) (Q := fun v h L => Q' v h ∧ Fr n0 L) (K []) C.hZ w4 w3 (by rw [C.ro]; exact hf) (by rw [C.ro]; exact hl)) (g := mkF w.m pc Ls st) rfl (hz.trans C.ml.symm) (Steps.refl _) (a := a) (argsL := argsL) (rest := rest) (lenOf pd hlen) hst (by show 2 * 0 + _ ≤ _; omega) (C.dec hd) (fun _ _ => ⟨rfl, eT, by rw [C.ro]; exact hc, by rw [C.ro]; exact hn⟩)
  exact g_fin (T := T) (as := argsL.toArray) (A := (⟨T.setVm vm₁, locs, k, n⟩ : Pt)) C ⟨rfl, rfl, rfl⟩ X' hQ N g (fun t r => s'.trans r)
theorem g_virtual (C : Cx w l Z own bytes mx rt nm rm n0) {y z : MethodName} {B : String} {i mL : Nat} {bs : ByteArray} {rt' : Option FieldType} {rm' : Room} {Q' : Option Value → Heap → Prop} {a : Addr} {argsL : List Value} {ps : List FieldType} {r : Option FieldType}
    (w1 : (Jvm.Cond.methodLink own i y).before a0 Z = true) (w2 : (Jvm.Cond.declares y).before a0 Z = true) (nf : ∀ {s : State}, Z.Warmed39 s.vm → NotFace s y) (ws : (Jvm.Cond.selects B y z).before a0 Z = true) (w5 : (Jvm.Cond.instanceMethod z).before a0 Z = true) (w3 : (Jvm.Cond.initialized z.cls).before a0 Z = true) (w4 : (Jvm.Cond.code z bs mL rt').before a0 Z = true) (hy : y.cls ≠ "java/lang/invoke/MethodHandle" ∧ y.cls ≠ "java/lang/invoke/VarHandle")
    (hd : decode bytes pc = .ok (.invokevirtual i, 3)) (pd : parseMethodDescriptor y.desc = some ⟨ps, r⟩) (hlen : argsL.length = ps.length) (hst : st = argsL.reverse ++ .ref a :: rest) (hz : Ls.size = mx) (E : Exa Z h a B)
    (K : Con l Z z bs mL rt' rm' (.ref a :: argsL).toArray h n0 Q') (hf : rm'.frames + 1 ≤ rm.frames) (hl : (rest.map fun v => v.category).sum + (mL + 11) + rm'.locals ≤ rm.locals) (hc : k' ≤ rm.cells) (hn : n' ≤ rm.slots) (ek : k + rm'.cells = k') (en : n + rm'.slots = n') (hp : pc + 3 = pc')
    (g : ∀ v h', Q' v h' → G w Q h' k' n' pc' Ls (psh v rest)) : G w Q h k n pc Ls st := by
  subst hp ek en; intro T locs X eT N
  have hl0 : w.l = l := C.1
  subst hl0
  obtain ⟨cq, kq, q1, q2, q3⟩ := isOf C.hZ eT E
  obtain ⟨v, vm₁, B, -, X', hQ, s'⟩ := X.virtualBack C.ex C.ow (mvT C.hZ w1) (mvT C.hZ w2) (nf C.hZ) (mvT C.hZ ws) (mvT C.hZ w5) hy (backOf (W := (rest.map fun v => v.category).sum) (Q := fun v h L => Q' v h ∧ Fr n0 L) (K []) C.hZ w4 w3 (by rw [C.ro]; exact hf) (by rw [C.ro]; exact hl)) q1 q3 (g := mkF w.m pc Ls st) rfl (hz.trans C.ml.symm) (Steps.refl _) (argsL := argsL) (rest := rest) (lenOf pd hlen) hst (by show 2 * 0 + _ ≤ _; omega) (C.dec hd) (fun _ _ => ⟨rfl, eT, by rw [C.ro]; exact hc, by rw [C.ro]; exact hn⟩)
  exact g_fin (T := T) (as := argsL.toArray) (A := (⟨T.setVm vm₁, locs, k, n⟩ : Pt)) C ⟨rfl, rfl, rfl⟩ X' hQ N g (fun t r => s'.trans r)
theorem nfSel {y : MethodName} {B : String} (ws : (Jvm.Cond.selects B y y).before a0 Z = true) : ∀ {s : State}, Z.Warmed39 s.vm → NotFace s y := fun hZ => notFace_of_selects (args := #[]) (mvT hZ ws)
theorem g_virtualUp (C : Cx w l Z own bytes mx rt nm rm n0) {y z : MethodName} {B owner : String} {i mL : Nat} {bs : ByteArray} {rt' : Option FieldType} {rm' : Room} {Q' : Option Value → Heap → Prop} {a : Addr} {argsL : List Value} {ps : List FieldType} {r : Option FieldType}
    (w1 : (Jvm.Cond.methodLink own i y).before a0 Z = true) (wm : (Jvm.Cond.sameMethod y.cls owner y.name y.desc).before a0 Z = true) (w2 : (Jvm.Cond.declares ⟨owner, y.name, y.desc⟩).before a0 Z = true) (ho : owner ≠ "java/lang/invoke/MethodHandle" ∧ owner ≠ "java/lang/invoke/VarHandle") (ws : (Jvm.Cond.selects B y z).before a0 Z = true) (w5 : (Jvm.Cond.instanceMethod z).before a0 Z = true) (w3 : (Jvm.Cond.initialized z.cls).before a0 Z = true) (w4 : (Jvm.Cond.code z bs mL rt').before a0 Z = true)
    (hd : decode bytes pc = .ok (.invokevirtual i, 3)) (pd : parseMethodDescriptor y.desc = some ⟨ps, r⟩) (hlen : argsL.length = ps.length) (hst : st = argsL.reverse ++ .ref a :: rest) (hz : Ls.size = mx) (E : Exa Z h a B)
    (K : Con l Z z bs mL rt' rm' (.ref a :: argsL).toArray h n0 Q') (hf : rm'.frames + 1 ≤ rm.frames) (hl : (rest.map fun v => v.category).sum + (mL + 11) + rm'.locals ≤ rm.locals) (hc : k' ≤ rm.cells) (hn : n' ≤ rm.slots) (ek : k + rm'.cells = k') (en : n + rm'.slots = n') (hp : pc + 3 = pc')
    (g : ∀ v h', Q' v h' → G w Q h' k' n' pc' Ls (psh v rest)) : G w Q h k n pc Ls st := by
  subst hp ek en; intro T locs X eT N
  have hl0 : w.l = l := C.1
  subst hl0
  obtain ⟨cq, kq, q1, q2, q3⟩ := isOf C.hZ eT E
  obtain ⟨v, vm₁, B, -, X', hQ, s'⟩ := X.virtualBackUp C.ex C.ow (mvT C.hZ w1) (mvT C.hZ wm) (mvT C.hZ w2) ho (mvT C.hZ ws) (mvT C.hZ w5) (backOf (W := (rest.map fun v => v.category).sum) (Q := fun v h L => Q' v h ∧ Fr n0 L) (K []) C.hZ w4 w3 (by rw [C.ro]; exact hf) (by rw [C.ro]; exact hl)) q1 q3 (g := mkF w.m pc Ls st) rfl (hz.trans C.ml.symm) (Steps.refl _) (argsL := argsL) (rest := rest) (lenOf pd hlen) hst (by show 2 * 0 + _ ≤ _; omega) (C.dec hd) (fun _ _ => ⟨rfl, eT, by rw [C.ro]; exact hc, by rw [C.ro]; exact hn⟩)
  exact g_fin (T := T) (as := argsL.toArray) (A := (⟨T.setVm vm₁, locs, k, n⟩ : Pt)) C ⟨rfl, rfl, rfl⟩ X' hQ N g (fun t r => s'.trans r)
theorem g_interface (C : Cx w l Z own bytes mx rt nm rm n0) {y z : MethodName} {B : String} {count : Nat} {i mL : Nat} {bs : ByteArray} {rt' : Option FieldType} {rm' : Room} {Q' : Option Value → Heap → Prop} {a : Addr} {argsL : List Value} {ps : List FieldType} {r : Option FieldType}
    (w1 : (Jvm.Cond.methodLink own i y).before a0 Z = true) (w2 : (Jvm.Cond.declares y).before a0 Z = true) (wf : (Jvm.Cond.interfaceMethod y.cls y.cls y.name y.desc).before a0 Z = true) (hfa : ((Jvm.Cond.interfaceMethod y.cls y.cls y.name y.desc).onTables && (Jvm.Cond.interfaceMethod y.cls y.cls y.name y.desc).keepsFace) = true) (ws : (Jvm.Cond.selects B y z).before a0 Z = true) (w5 : (Jvm.Cond.instanceMethod z).before a0 Z = true) (wp : (Jvm.Cond.publicMethod z).before a0 Z = true) (wu : (Jvm.Cond.unhidden B y.name y.desc).before a0 Z = true) (wk : (Jvm.Cond.castable B y.cls).before a0 Z = true) (w3 : (Jvm.Cond.initialized z.cls).before a0 Z = true) (w4 : (Jvm.Cond.code z bs mL rt').before a0 Z = true) (hy : y.cls ≠ "java/lang/invoke/MethodHandle" ∧ y.cls ≠ "java/lang/invoke/VarHandle")
    (hd : decode bytes pc = .ok (.invokeinterface i count, 5)) (pd : parseMethodDescriptor y.desc = some ⟨ps, r⟩) (hlen : argsL.length = ps.length) (hst : st = argsL.reverse ++ .ref a :: rest) (hz : Ls.size = mx) (E : Exa Z h a B)
    (K : Con l Z z bs mL rt' rm' (.ref a :: argsL).toArray h n0 Q') (hf : rm'.frames + 1 ≤ rm.frames) (hl : (rest.map fun v => v.category).sum + (mL + 11) + rm'.locals ≤ rm.locals) (hc : k' ≤ rm.cells) (hn : n' ≤ rm.slots) (ek : k + rm'.cells = k') (en : n + rm'.slots = n') (hp : pc + 5 = pc')
    (g : ∀ v h', Q' v h' → G w Q h' k' n' pc' Ls (psh v rest)) : G w Q h k n pc Ls st := by
  subst hp ek en; intro T locs X eT N
  have hl0 : w.l = l := C.1
  subst hl0
  obtain ⟨cq, kq, q1, q2, q3⟩ := isOf C.hZ eT E
  obtain ⟨v, vm₁, B, -, X', hQ, s'⟩ := X.interfaceBack C.ex C.ow (mvT C.hZ w1) (mvT C.hZ w2) (mvT C.hZ wf hfa) (mvT C.hZ ws) (mvT C.hZ w5) (mvT C.hZ wp) (mvT C.hZ wu) (mvT C.hZ wk) hy (backOf (W := (rest.map fun v => v.category).sum) (Q := fun v h L => Q' v h ∧ Fr n0 L) (K []) C.hZ w4 w3 (by rw [C.ro]; exact hf) (by rw [C.ro]; exact hl)) q1 q2 q3 (g := mkF w.m pc Ls st) rfl (hz.trans C.ml.symm) (Steps.refl _) (argsL := argsL) (rest := rest) (lenOf pd hlen) hst (by show 2 * 0 + _ ≤ _; omega) (C.dec hd) (fun _ _ => ⟨rfl, eT, by rw [C.ro]; exact hc, by rw [C.ro]; exact hn⟩)
  exact g_fin (T := T) (as := argsL.toArray) (A := (⟨T.setVm vm₁, locs, k, n⟩ : Pt)) C ⟨rfl, rfl, rfl⟩ X' hQ N g (fun t r => s'.trans r)
theorem g_private (C : Cx w l Z own bytes mx rt nm rm n0) {y : MethodName} {B : String} {kk i mL : Nat} {bs : ByteArray} {rt' : Option FieldType} {rm' : Room} {Q' : Option Value → Heap → Prop} {a : Addr} {argsL : List Value} {ps : List FieldType} {r : Option FieldType}
    (w1 : (Jvm.Cond.methodLink own i y).before a0 Z = true) (w5 : (Jvm.Cond.instanceMethod y).before a0 Z = true) (wi : (Jvm.Cond.instantiable y.cls kk).before a0 Z = true) (wp : (Jvm.Cond.privateMethod y).before a0 Z = true) (w3 : (Jvm.Cond.initialized y.cls).before a0 Z = true) (w4 : (Jvm.Cond.code y bs mL rt').before a0 Z = true) (hy : y.cls ≠ "java/lang/invoke/MethodHandle" ∧ y.cls ≠ "java/lang/invoke/VarHandle")
    (hd : decode bytes pc = .ok (.invokevirtual i, 3)) (pd : parseMethodDescriptor y.desc = some ⟨ps, r⟩) (hlen : argsL.length = ps.length) (hst : st = argsL.reverse ++ .ref a :: rest) (hz : Ls.size = mx) (E : Exa Z h a B)
    (K : Con l Z y bs mL rt' rm' (.ref a :: argsL).toArray h n0 Q') (hf : rm'.frames + 1 ≤ rm.frames) (hl : (rest.map fun v => v.category).sum + (mL + 11) + rm'.locals ≤ rm.locals) (hc : k' ≤ rm.cells) (hn : n' ≤ rm.slots) (ek : k + rm'.cells = k') (en : n + rm'.slots = n') (hp : pc + 3 = pc')
    (g : ∀ v h', Q' v h' → G w Q h' k' n' pc' Ls (psh v rest)) : G w Q h k n pc Ls st := by
  subst hp ek en; intro T locs X eT N
  have hl0 : w.l = l := C.1
  subst hl0
  obtain ⟨cq, q1, q2⟩ := E.cell
  have wi' : (Jvm.Cond.instantiable y.cls kk).before w.args w.s = true := mvT C.hZ wi
  obtain ⟨c2, k2, i1, i2, -, i4, -⟩ := Cond.instantiable_spec wi'
  have hni : k2.isInterface = false := (Bool.or_eq_false_iff.mp i4).1
  have hpv := Cond.privateMethod_at (mvP C.hZ wp (args := w.args))
  obtain ⟨v, vm₁, B, -, X', hQ, s'⟩ := X.privateBack C.ex C.ow (mvT C.hZ w1) (mvT C.hZ w5) (selects_self_of_private i1 i2 hni hpv (mvT C.hZ w5) hy) hpv (mvT C.hZ w4) hy (backOf (W := (rest.map fun v => v.category).sum) (Q := fun v h L => Q' v h ∧ Fr n0 L) (K []) C.hZ w4 w3 (by rw [C.ro]; exact hf) (by rw [C.ro]; exact hl)) (g := mkF w.m pc Ls st) rfl (hz.trans C.ml.symm) (Steps.refl _) (a := a) (by rw [eT]; exact q1) q2 (argsL := argsL) (rest := rest) (lenOf pd hlen) hst (by show 2 * 0 + _ ≤ _; omega) (C.dec hd) (fun _ _ => ⟨rfl, eT, by rw [C.ro]; exact hc, by rw [C.ro]; exact hn⟩)
  exact g_fin (T := T) (as := argsL.toArray) (A := (⟨T.setVm vm₁, locs, k, n⟩ : Pt)) C ⟨rfl, rfl, rfl⟩ X' hQ N g (fun t r => s'.trans r)
theorem g_lswHit (C : Cx w l Z own bytes mx rt nm rm n0) {df : Int} {prs : Array (Int × Int)} {len : Nat} {a o : Int} {i : Int32} (hd : decode bytes pc = .ok (.lookupswitch df prs, len)) (hs : st = .int i :: rest) (hso : (prs.toList.zip (prs.toList.drop 1)).all (fun (a, next) => a.1 < next.1) = true) (hf : prs.find? (·.1 == i.toInt) = some (a, o)) (ho : 0 ≤ (pc : Int) + o) (hp : ((pc : Int) + o).toNat = pc') (g : G w Q h k n pc' Ls rest) : G w Q h k n pc Ls st := by
  subst hp; exact g.adv fun T locs X _ t r => X.lookupswitchHit C.ex (g := mkF w.m pc Ls st) rfl hs (C.dec hd) hso hf ho t r
theorem g_lswMiss (C : Cx w l Z own bytes mx rt nm rm n0) {df : Int} {prs : Array (Int × Int)} {len : Nat} {i : Int32} (hd : decode bytes pc = .ok (.lookupswitch df prs, len)) (hs : st = .int i :: rest) (hso : (prs.toList.zip (prs.toList.drop 1)).all (fun (a, next) => a.1 < next.1) = true) (hf : prs.find? (·.1 == i.toInt) = none) (ho : 0 ≤ (pc : Int) + df) (hp : ((pc : Int) + df).toNat = pc') (g : G w Q h k n pc' Ls rest) : G w Q h k n pc Ls st := by
  subst hp; exact g.adv fun T locs X _ t r => X.lookupswitchMiss C.ex (g := mkF w.m pc Ls st) rfl hs (C.dec hd) hso hf ho t r
end Gs
theorem wd {Z : State} {a0 : Array Value} (hw : ∀ d ∈ tables_1, d.before a0 Z = true) (i : Nat) {d : Jvm.Cond} (e : tables_1[i]? = some d) : d.before a0 Z = true := hw _ (List.mem_of_getElem? e)
theorem own_fldInt {args : Array Value} {s : State} {t : Term} {a : Addr} {C f d : String} {k : Int32} (ev : t.eval args s none [] s = some (.ref a)) (h : (Jvm.Cond.eq (.field t C f d) (.int k)).value args s none s [] = some true) : Fld s s.heap a C f d (.int k) := by
  obtain ⟨x, y, hx, hy, k1, k2⟩ := cmp_v (Or.inl h)
  cases (Term.int_eval k).symm.trans hy
  obtain ⟨z, rfl⟩ : ∃ z, x = .int z := by simpa [Kin] using k2
  have e : z = k := by simpa [Jvm.Cond.value, hx, hy] using h
  subst e
  rw [fld_at ev] at hx
  exact Fld.start hx
theorem own_fldLong {args : Array Value} {s : State} {t : Term} {a : Addr} {C f d : String} {k : Int64} (ev : t.eval args s none [] s = some (.ref a)) (h : (Jvm.Cond.eq (.field t C f d) (.long k)).value args s none s [] = some true) : Fld s s.heap a C f d (.long k) := by
  obtain ⟨x, y, hx, hy, k1, k2⟩ := cmp_v (Or.inl h)
  cases (long_at k).symm.trans hy
  obtain ⟨z, rfl⟩ : ∃ z, x = .long z := by simpa [Kin] using k2
  have e : z = k := by simpa [Jvm.Cond.value, hx, hy] using h
  subst e
  rw [fld_at ev] at hx
  exact Fld.start hx
theorem own_staLong {args : Array Value} {s : State} {t : Term} {k : Int64} (h : (Jvm.Cond.eq t (.long k)).value args s none s [] = some true) : t.eval args s none [] s = some (.long k) := by
  obtain ⟨x, y, hx, hy, k1, k2⟩ := cmp_v (Or.inl h)
  cases (long_at k).symm.trans hy
  obtain ⟨z, rfl⟩ : ∃ z, x = .long z := by simpa [Kin] using k2
  have e : z = k := by simpa [Jvm.Cond.value, hx, hy] using h
  subst e
  exact hx
theorem own_staInt {args : Array Value} {s : State} {t : Term} {k : Int32} (h : (Jvm.Cond.eq t (.int k)).value args s none s [] = some true) : t.eval args s none [] s = some (.int k) := by
  obtain ⟨x, y, hx, hy, k1, k2⟩ := cmp_v (Or.inl h)
  cases (Term.int_eval k).symm.trans hy
  obtain ⟨z, rfl⟩ : ∃ z, x = .int z := by simpa [Kin] using k2
  have e : z = k := by simpa [Jvm.Cond.value, hx, hy] using h
  subst e
  exact hx
theorem own_ine {i j : Int32} (h : i ≠ j) : (Value.int i) ≠ .int j := fun q => h (by injection q)
theorem own_mask31 (x : Int32) : 0 ≤ (x &&& 2147483647).toInt ∧ (x &&& 2147483647).toInt < 2147483648 := by
  have := c_mask x 2147483647 31 (by decide) (by decide)
  rw [this]; omega
/-! class objects, a negative instanceof, a constructor through a nest -/
section Jdk
variable {w : Wk} {l : Launch} {Z : State} {own : String} {bytes : ByteArray} {mx : Nat} {rt : Option FieldType} {nm : String} {rm : Room} {n0 : Nat} {Q : Option Value → Heap → Prop} {h : Heap} {k n pc pc' : Nat} {Ls Ls' : Array Slot} {st rest : List Value} {a0 : Array Value} {t : FieldType} {k' n' : Nat}
theorem g_ldcMirror (C : Cx w l Z own bytes mx rt nm rm n0) {K : String} {i : Nat} {mr : Addr} (hw : (Jvm.Cond.classLink own i K).before a0 Z = true) (M : Mir Z K mr) (hd : decode bytes pc = .ok (.ldc i, 2)) (hp : pc + 2 = pc') (g : G w Q h k n pc' Ls (.ref mr :: st)) : G w Q h k n pc Ls st := by
  subst hp; intro T locs X eT N
  obtain ⟨cc, kc, m1, m2, m3, -⟩ := M
  obtain ⟨k1, q, ek⟩ := C.hZ.alike.2.2 _ _ m2
  have e1 : w.s.vm.findClass K = some cc := by rw [C.hZ.alike.findClass]; exact m1
  have e2 : k1.mirror = some mr := by rw [ek]; exact m3
  have hev : (Term.mirror K).eval w.args w.s none [] w.s = some (.ref mr) := by simp [Term.eval, e1, q, e2]
  obtain ⟨vm', X', s'⟩ := X.ldcMirror C.ex C.ow (mvT C.hZ hw) hev (g := mkF w.m pc Ls st) rfl (C.dec hd)
  exact G.to X' eT N s' g
theorem g_getClass (C : Cx w l Z own bytes mx rt nm rm n0) {K : String} {i : Nat} {a mr : Addr} (w1 : (Jvm.Cond.methodLink own i ⟨"java/lang/Object", "getClass", "()Ljava/lang/Class;"⟩).before a0 Z = true) (w2 : (Jvm.Cond.declares ⟨"java/lang/Object", "getClass", "()Ljava/lang/Class;"⟩).before a0 Z = true) (w3 : (Jvm.Cond.noSuperclass "java/lang/Object").before a0 Z = true) (w4 : (Jvm.Cond.selects K ⟨"java/lang/Object", "getClass", "()Ljava/lang/Class;"⟩ ⟨"java/lang/Object", "getClass", "()Ljava/lang/Class;"⟩).before a0 Z = true)
    (w5 : (Jvm.Cond.instanceMethod ⟨"java/lang/Object", "getClass", "()Ljava/lang/Class;"⟩).before a0 Z = true) (w6 : (Jvm.Cond.native ⟨"java/lang/Object", "getClass", "()Ljava/lang/Class;"⟩).before a0 Z = true) (hd : decode bytes pc = .ok (.invokevirtual i, 3)) (hs : st = .ref a :: rest) (hz : Ls.size = mx) (E : Exa Z h a K) (M : Mir Z K mr) (hf : 1 ≤ rm.frames) (hl : (rest.map fun v => v.category).sum + (nativeFrameWords "java/lang/Object" "getClass" 1 + 11) ≤ rm.locals) (hp : pc + 3 = pc') (g : G w Q h k n pc' Ls (.ref mr :: rest)) : G w Q h k n pc Ls st := by
  subst hp; intro T locs X eT N
  obtain ⟨T', X', e', s'⟩ := gcls X C.ex C.hZ C.ow w1 w2 w3 w4 w5 w6 eT E M (g := mkF w.m pc Ls st) rfl (hz.trans C.ml.symm) hs (C.dec hd) (by rw [C.ro]; exact hf) (W := (rest.map fun v => v.category).sum) (by show 2 * 0 + _ ≤ _; omega) (by rw [C.ro]; exact hl)
  exact G.to X' e' N s' g
theorem g_specialNest (C : Cx w l Z own bytes mx rt nm rm n0) {y : MethodName} {host : String} {i mL : Nat} {bs : ByteArray} {rm' : Room} {Q' : Option Value → Heap → Prop} {a : Addr} {argsL : List Value} {ps : List FieldType} {r : Option FieldType}
    (w1 : (Jvm.Cond.methodLinkNest own i y host).before a0 Z = true) (w2 : (Jvm.Cond.instanceMethod y).before a0 Z = true) (w3 : (Jvm.Cond.initialized y.cls).before a0 Z = true) (w4 : (Jvm.Cond.code y bs mL none).before a0 Z = true) (hy : y.cls ≠ "java/lang/invoke/MethodHandle" ∧ y.cls ≠ "java/lang/invoke/VarHandle") (hy1 : y.name = "<init>")
    (hd : decode bytes pc = .ok (.invokespecial i, 3)) (pd : parseMethodDescriptor y.desc = some ⟨ps, r⟩) (hlen : argsL.length = ps.length) (hst : st = argsL.reverse ++ .ref a :: rest) (hz : Ls.size = mx)
    (K : Con l Z y bs mL none rm' (.ref a :: argsL).toArray h n0 Q') (hf : rm'.frames + 1 ≤ rm.frames) (hl : (rest.map fun v => v.category).sum + (mL + 11) + rm'.locals ≤ rm.locals) (hc : k' ≤ rm.cells) (hn : n' ≤ rm.slots) (ek : k + rm'.cells = k') (en : n + rm'.slots = n') (hp : pc + 3 = pc')
    (g : ∀ v h', Q' v h' → G w Q h' k' n' pc' Ls (psh v rest)) : G w Q h k n pc Ls st := by
  subst hp ek en; intro T locs X eT N
  have hl0 : w.l = l := C.1
  subst hl0
  obtain ⟨v, vm₁, B, -, X', hQ, s'⟩ := X.specialBackNest C.ex hy1 C.ow ((Cond.methodLinkNest_wide C.hZ w1 :) : (Jvm.Cond.methodLinkNest own i y host).before w.args w.s = true) (mvT C.hZ w2) (mvT C.hZ w4) hy (backOf (W := (rest.map fun v => v.category).sum) (Q := fun v h L => Q' v h ∧ Fr n0 L) (K []) C.hZ w4 w3 (by rw [C.ro]; exact hf) (by rw [C.ro]; exact hl)) (g := mkF w.m pc Ls st) rfl (hz.trans C.ml.symm) (Steps.refl _) (a := a) (argsL := argsL) (rest := rest) (lenOf pd hlen) hst (by show 2 * 0 + _ ≤ _; omega) (C.dec hd) (fun _ _ => ⟨rfl, eT, by rw [C.ro]; exact hc, by rw [C.ro]; exact hn⟩)
  exact g_fin (T := T) (as := argsL.toArray) (A := (⟨T.setVm vm₁, locs, k, n⟩ : Pt)) C ⟨rfl, rfl, rfl⟩ X' hQ N g (fun t r => s'.trans r)
theorem g_newRE (C : Cx w l Z own bytes mx rt nm rm n0) {K ad : String} {i : Nat} {z : Int32} {cap : Nat} (hw : (Jvm.Cond.classLink own i K).before a0 Z = true) (w2 : (Jvm.Cond.arrayOver (.object K)).before a0 Z = true) (had : "[" ++ (FieldType.object K).toString = ad) (hd : decode bytes pc = .ok (.anewarray i, 3)) (hs : st = .int z :: rest) (hn : ¬ z < 0) (hcap : z.toNatClampNeg ≤ cap) (hb' : cap * 8 ≤ 536870912) (hc : k' ≤ rm.cells) (hl : n' ≤ rm.slots) (ek : k + 1 = k') (en : n + cap = n') (hp : pc + 3 = pc')
    (g : ∀ h' a kA, a = h.size → Ext h h' → Arv Z h' a kA (.object K) z [] .null → Exa Z h' a ad → Ovr Z kA K → G w Q h' k' n' pc' Ls (.ref a :: rest)) : G w Q h k n pc Ls st := by
  subst hp ek en; intro T locs X eT N
  obtain ⟨T', h', kA, X', e', E, A, B, O, s'⟩ := newRE X C.ex C.hZ C.ow hw w2 eT (g := mkF w.m pc Ls st) rfl (C.dec hd) hs hn hcap hb' (by rw [C.ro]; exact hc) (by rw [C.ro]; exact hl) had
  exact G.to X' e' N s' (g h' _ kA rfl E (Arv.new A hn) B O)
theorem ns_root {O K : String} {kk : Nat} (w0 : (Jvm.Cond.noSuperclass O).before a0 Z = true) (wk : (Jvm.Cond.instantiable K kk).before a0 Z = true) (hn : O ≠ K) : NS Z O K := by
  obtain ⟨c, k, h1, h2, h3, -, -⟩ := Cond.noSuperclass_spec w0
  obtain ⟨t, k2, g1, -⟩ := Cond.instantiable_spec wk
  have ne := ids_ne h1 g1 hn
  refine ⟨c, t, h1, g1, fun fuel => ?_⟩
  cases fuel with
  | zero => rfl
  | succ f => simp [Vm.isSubclassAux, ne, h2, h3]
theorem ns_no {B S K : String} {kk : Nat} (w0 : (Jvm.Cond.superclass B S).before a0 Z = true) (wk : (Jvm.Cond.instantiable K kk).before a0 Z = true) (n : NS Z B K) (hn : B ≠ K) : ∃ c t, Z.vm.findClass B = some c ∧ Z.vm.findClass K = some t ∧ Z.vm.assignable c t = false := by
  obtain ⟨c, t, h0, g0, n3⟩ := n
  obtain ⟨p, k, kp, h1, h2, h3, h4, h5, -, h7⟩ := Cond.superclass_spec h0 w0
  obtain ⟨t2, k2, g1, g2, g3, g4, -⟩ := Cond.instantiable_spec wk
  cases g0.symm.trans g1
  have ne := ids_ne h0 g0 hn
  have g7 : k2.isInterface = false := (Bool.or_eq_false_iff.mp g4).1
  refine ⟨c, t, h0, g0, ?_⟩
  show Z.vm.assignableAux (255 + 1) c t = false
  simp [Vm.assignableAux, ne, h2, g2, h5, g3, g7, Vm.isSubclass, n3]
end Jdk
theorem own_fldRef {args : Array Value} {s : State} {t : Term} {a b : Addr} {C f d : String} (ev : t.eval args s none [] s = some (.ref a)) (h : (Term.field t C f d).eval args s none [] s = some (.ref b)) : Fld s s.heap a C f d (.ref b) := by
  rw [fld_at ev] at h
  exact Fld.start h
theorem own_emptyA {s : State} {args : Array Value} {t : Term} {a : Addr} {ty : FieldType} {dv : Value} (ev : t.eval args s none [] s = some (.ref a)) (ha : (Jvm.Cond.arrayOf t ty).value args s none s [] = some true) (hl : (Jvm.Cond.eq (.length t) (.int (0 : Int32))).value args s none s [] = some true) : ∃ kE, Arv s s.heap a kE ty (0 : Int32) [] dv := by
  obtain ⟨c, A⟩ := Arr.start ev ha
  have hc := A.fin (Vm.Alike.refl _)
  have e := own_staInt hl
  have hi : (Jvm.Cond.isInt (.length t)).before args s = true := Cond.before_iff.mpr (by simp [Jvm.Cond.value, e])
  have sm := Cond.small_of_lengthOf ev hc hi
  obtain ⟨x, c', e1, e2, e3⟩ := Term.length_spec e
  cases ev.symm.trans e1
  cases hc.symm.trans e2
  have q : c.slots.size.toInt32 = 0 := by injection e3 with e4; exact e4.symm
  have z : c.slots.size = 0 := by
    have r := len_toInt sm
    rw [q] at r
    have e0 : (0 : Int32).toInt = 0 := by decide
    omega
  exact ⟨c.cls, c, A, rfl, by rw [z]; rfl, by decide, fun k hk => absurd hk (by omega), fun i hi => absurd hi (by omega)⟩

theorem own_neInt {args : Array Value} {s : State} {t : Term} {x : Int32} (ev : t.eval args s none [] s = some (.int x)) (h : (Jvm.Cond.not (Jvm.Cond.eq t (.int (0 : Int32)))).value args s none s [] = some true) : ¬ x = 0 := by
  have q := not_v h
  have e0 : (Term.int (0 : Int32)).eval args s none [] s = some (.int 0) := Term.int_eval 0
  simpa [Jvm.Cond.value, ev, e0] using q
def En (Z : State) (s_DEF : Addr) (s_EL : Addr) (s_EA : Addr) (s_EM : Addr) (cs : Int32) (mr : Addr) : Prop := (Sta Z Z.heap "java/util/ArrayList" "DEFAULTCAPACITY_EMPTY_ELEMENTDATA" "[Ljava/lang/Object;" (.ref s_DEF)) ∧ (Exa Z Z.heap s_DEF "[Ljava/lang/Object;") ∧ (∃ kE, Arv Z Z.heap s_DEF kE (.object "java/lang/Object") (0 : Int32) [] .null) ∧ (Sta Z Z.heap "java/util/ImmutableCollections" "EMPTY_LIST" "Ljava/util/ImmutableCollections$ListN;" (.ref s_EL)) ∧ (Exa Z Z.heap s_EL "java/util/ImmutableCollections$ListN") ∧ (Fld Z Z.heap s_EL "java/util/ImmutableCollections$ListN" "elements" "[Ljava/lang/Object;" (.ref s_EA)) ∧ (∃ kE, Arv Z Z.heap s_EA kE (.object "java/lang/Object") (0 : Int32) [] .null) ∧ (Sta Z Z.heap "java/util/ImmutableCollections" "EMPTY" "Ljava/lang/Object;" (.ref s_EM)) ∧ (Exa Z Z.heap s_EM "java/lang/Object") ∧ (Sta Z Z.heap "java/lang/String" "COMPACT_STRINGS" "Z" (.int cs)) ∧ (¬ cs = 0) ∧ (Mir Z "[Ljava/lang/Object;" mr)
def AL0 (Z : State) (n0 : Nat) (h : Heap) (a ed : Addr) (mc : Int32) : Prop := n0 ≤ a ∧ Exa Z h a "java/util/ArrayList" ∧ Fld Z h a "java/util/AbstractList" "modCount" "I" (.int mc) ∧ Fld Z h a "java/util/ArrayList" "elementData" "[Ljava/lang/Object;" (.ref ed) ∧ Fld Z h a "java/util/ArrayList" "size" "I" (.int (0 : Int32))
def AL1 (Z : State) (n0 : Nat) (h : Heap) (a ed : Addr) (kE : ClassId) (mc s : Int32) (vs : List Value) : Prop := n0 ≤ a ∧ n0 ≤ ed ∧ a ≠ ed ∧ Ovr Z kE "java/lang/Object" ∧ Exa Z h a "java/util/ArrayList" ∧ Exa Z h ed "[Ljava/lang/Object;" ∧ Fld Z h a "java/util/AbstractList" "modCount" "I" (.int mc) ∧ Fld Z h a "java/util/ArrayList" "elementData" "[Ljava/lang/Object;" (.ref ed) ∧ Fld Z h a "java/util/ArrayList" "size" "I" (.int s) ∧ Arv Z h ed kE (.object "java/lang/Object") (10 : Int32) vs .null
theorem own_AL0_keep {Z : State} {n0 : Nat} {h h' : Heap} {ws : List Addr} {a ed : Addr} {mc : Int32} (P : AL0 Z n0 h a ed mc) (K : Keep h h' ws) (q : a ∉ ws) : AL0 Z n0 h' a ed mc := by
  obtain ⟨g, E, F1, F2, F3⟩ := P; exact ⟨g, E.keep K, F1.keep K q, F2.keep K q, F3.keep K q⟩
theorem own_AL0_ext {Z : State} {n0 : Nat} {h h' : Heap} {a ed : Addr} {mc : Int32} (P : AL0 Z n0 h a ed mc) (K : Ext h h') : AL0 Z n0 h' a ed mc := by
  obtain ⟨g, E, F1, F2, F3⟩ := P; exact ⟨g, E.ext K, F1.ext K, F2.ext K, F3.ext K⟩
theorem own_AL1_keep {Z : State} {n0 : Nat} {h h' : Heap} {ws : List Addr} {a ed : Addr} {kE : ClassId} {mc s : Int32} {vs : List Value} (P : AL1 Z n0 h a ed kE mc s vs) (K : Keep h h' ws) (q : a ∉ ws) (r : ed ∉ ws) : AL1 Z n0 h' a ed kE mc s vs := by
  obtain ⟨g, g2, n, O, E, E2, F1, F2, F3, A⟩ := P; exact ⟨g, g2, n, O, E.keep K, E2.keep K, F1.keep K q, F2.keep K q, F3.keep K q, A.keep K r⟩
theorem own_AL1_ext {Z : State} {n0 : Nat} {h h' : Heap} {a ed : Addr} {kE : ClassId} {mc s : Int32} {vs : List Value} (P : AL1 Z n0 h a ed kE mc s vs) (K : Ext h h') : AL1 Z n0 h' a ed kE mc s vs := by
  obtain ⟨g, g2, n, O, E, E2, F1, F2, F3, A⟩ := P; exact ⟨g, g2, n, O, E.ext K, E2.ext K, F1.ext K, F2.ext K, F3.ext K, A.ext K⟩
theorem d2_0 : decode jdk_43_method_3_code 0 = .ok (.iload_n 0, 1) := by decide +kernel
theorem d2_1 : decode jdk_43_method_3_code 1 = .ok (.sipush 255, 3) := by decide +kernel
theorem d2_4 : decode jdk_43_method_3_code 4 = .ok (.if_icmp .gt 7, 3) := by decide +kernel
theorem d2_7 : decode jdk_43_method_3_code 7 = .ok (.iconst 1, 1) := by decide +kernel
theorem d2_8 : decode jdk_43_method_3_code 8 = .ok (.goto 4, 3) := by decide +kernel
theorem d2_12 : decode jdk_43_method_3_code 12 = .ok (.ireturn, 1) := by decide +kernel
theorem pn_7 : plainName "java/lang/StringLatin1" = true := by first | (simp [plainName, overriddenIn]; done) | decide +kernel
set_option maxRecDepth 65536 in
set_option maxHeartbeats 40000000 in
theorem canEnc (l : Launch) (Z : State) (a0 : Array Value) (hw : ∀ d ∈ tables_1, d.before a0 Z = true) (n0 : Nat) (h : Heap) (O : Old Z n0 h) (s_DEF : Addr) (s_EL : Addr) (s_EA : Addr) (s_EM : Addr) (cs : Int32) (mr : Addr) (H : En Z s_DEF s_EL s_EA s_EM cs mr) (c : Int32) (hc : ¬ (255 : Int32) < c) : Con l Z (⟨"java/lang/StringLatin1", "canEncode", "(C)Z"⟩ : MethodName) jdk_43_method_3_code 1 (some .boolean) ({ frames := 0, cells := 0, slots := 0, locals := 0 } : Room) #[(.int c)] h n0 (fun v h' => v = some (.int (1 : Int32)) ∧ h' = h) := by
  refine Con.mk (Ls := #[.val (.int c)]) (plainFor_of_name pn_7) (fun m => by first | (simp [entryFrame, mkF, argsToLocals, Value.category]; done) | rfl) (fun w C => ?_)
  replace C : Cx w l Z "java/lang/StringLatin1" jdk_43_method_3_code 1 (some .boolean) "canEncode" ({ frames := 0, cells := 0, slots := 0, locals := 0 } : Room) n0 := C
  obtain ⟨S_DEF, E_DEF, V_DEF, S_EL, E_EL, F_EL, V_EA, S_EM, E_EM, S_CS, hcs, MIR⟩ := id H
  refine g_iloadN C (pc' := 1) d2_0 rfl rfl ?_
  refine g_sipush C (pc' := 4) (v := (255 : Int32)) d2_1 (by decide) rfl ?_
  refine g_icN C (pc' := 7) d2_4 rfl (says_f (cd := .gt) (hc)) rfl ?_
  refine g_iconst C (pc' := 8) (v := (1 : Int32)) d2_7 (by decide) rfl ?_
  refine g_goto C (pc' := 12) d2_8 (by decide) rfl ?_
  exact g_zreturn C d2_12 rfl rfl (Nat.le_of_ble_eq_true rfl) (Nat.le_of_ble_eq_true rfl) (⟨rfl, rfl⟩)
theorem d3_0 : decode jdk_43_method_46_code 0 = .ok (.iconst 1, 1) := by decide +kernel
theorem d3_1 : decode jdk_43_method_46_code 1 = .ok (.newarray .byte, 2) := by decide +kernel
theorem d3_3 : decode jdk_43_method_46_code 3 = .ok (.dup, 1) := by decide +kernel
theorem d3_4 : decode jdk_43_method_46_code 4 = .ok (.iconst 0, 1) := by decide +kernel
theorem d3_5 : decode jdk_43_method_46_code 5 = .ok (.iload_n 0, 1) := by decide +kernel
theorem d3_6 : decode jdk_43_method_46_code 6 = .ok (.i2b, 1) := by decide +kernel
theorem d3_7 : decode jdk_43_method_46_code 7 = .ok (.bastore, 1) := by decide +kernel
theorem d3_8 : decode jdk_43_method_46_code 8 = .ok (.areturn, 1) := by decide +kernel
set_option maxRecDepth 65536 in
set_option maxHeartbeats 40000000 in
theorem toB (l : Launch) (Z : State) (a0 : Array Value) (hw : ∀ d ∈ tables_1, d.before a0 Z = true) (n0 : Nat) (h : Heap) (O : Old Z n0 h) (s_DEF : Addr) (s_EL : Addr) (s_EA : Addr) (s_EM : Addr) (cs : Int32) (mr : Addr) (H : En Z s_DEF s_EL s_EA s_EM cs mr) (c : Int32) : Con l Z (⟨"java/lang/StringLatin1", "toBytes", "(C)[B"⟩ : MethodName) jdk_43_method_46_code 1 (some (.array .byte)) ({ frames := 0, cells := 1, slots := 1, locals := 0 } : Room) #[(.int c)] h n0 (fun v h' => ∃ g, v = some (.ref g) ∧ h.size ≤ g ∧ Keep h h' []) := by
  refine Con.mk (Ls := #[.val (.int c)]) (plainFor_of_name pn_7) (fun m => by first | (simp [entryFrame, mkF, argsToLocals, Value.category]; done) | rfl) (fun w C => ?_)
  replace C : Cx w l Z "java/lang/StringLatin1" jdk_43_method_46_code 1 (some (.array .byte)) "toBytes" ({ frames := 0, cells := 1, slots := 1, locals := 0 } : Room) n0 := C
  obtain ⟨S_DEF, E_DEF, V_DEF, S_EL, E_EL, F_EL, V_EA, S_EM, E_EM, S_CS, hcs, MIR⟩ := id H
  obtain ⟨kD, V_DEF⟩ := V_DEF
  obtain ⟨kEA, V_EA⟩ := V_EA
  refine g_iconst C (pc' := 1) (v := (1 : Int32)) d3_0 (by decide) rfl ?_
  refine g_newP C (pc' := 3) (k' := 1) (n' := 1) (cap := 1) (wd hw 20 rfl) d3_1 rfl (by decide) (by decide) (by decide) (by decide) (by decide) rfl rfl rfl (fun h1 b2 kA3 ex4 E5 A6 => ?_)
  have ge_b2 : n0 ≤ b2 := by rw [ex4]; exact O.1 ▸ O.2.1
  have sz_b2 : h.size ≤ b2 := by rw [ex4]; exact (Keep.refl h []).1
  have f7 := O.ext E5
  have f8 := (Keep.refl h []).ext E5
  have A9 : Arv Z h1 b2 kA3 .byte (1 : Int32) [(.int (0 : Int32))] (.int (0 : Int32)) := A6.pad (pad_rep [] (.int (0 : Int32)) 1)
  refine g_dup C (pc' := 4) d3_3 rfl rfl rfl ?_
  refine g_iconst C (pc' := 5) (v := (0 : Int32)) d3_4 (by decide) rfl ?_
  refine g_iloadN C (pc' := 6) d3_5 rfl rfl ?_
  refine g_i2b C (pc' := 7) d3_6 rfl rfl ?_
  refine g_bastore C (pc' := 8) d3_7 rfl A9 (by decide) (by decide) ge_b2 rfl (fun h10 W11 => ?_)
  have f12 := f7.wr W11 ge_b2
  have f13 := f8.wr W11 (Or.inr sz_b2)
  have f14 := (arv_put A9 (fits_nar_byte _) W11 (i := 0) rfl (Nat.le_of_ble_eq_true rfl) : Arv Z h10 b2 kA3 .byte (1 : Int32) [(.int (nar .byte c.toInt8.toInt32))] (.int (0 : Int32)))
  exact g_areturn C d3_8 rfl rfl rfl rfl (Nat.le_of_ble_eq_true rfl) (Nat.le_of_ble_eq_true rfl) (⟨b2, rfl, sz_b2, f13⟩)
theorem d4_0 : decode jdk_42_method_151_code 0 = .ok (.aload_n 0, 1) := by decide +kernel
theorem d4_1 : decode jdk_42_method_151_code 1 = .ok (.invokespecial 1, 3) := by decide +kernel
theorem d4_4 : decode jdk_42_method_151_code 4 = .ok (.aload_n 0, 1) := by decide +kernel
theorem d4_5 : decode jdk_42_method_151_code 5 = .ok (.aload_n 1, 1) := by decide +kernel
theorem d4_6 : decode jdk_42_method_151_code 6 = .ok (.putfield 9, 3) := by decide +kernel
theorem d4_9 : decode jdk_42_method_151_code 9 = .ok (.aload_n 0, 1) := by decide +kernel
theorem d4_10 : decode jdk_42_method_151_code 10 = .ok (.iload_n 2, 1) := by decide +kernel
theorem d4_11 : decode jdk_42_method_151_code 11 = .ok (.putfield 15, 3) := by decide +kernel
theorem d4_14 : decode jdk_42_method_151_code 14 = .ok (.return_, 1) := by decide +kernel
theorem pn_6 : plainName "java/lang/String" = true := by first | (simp [plainName, overriddenIn]; done) | decide +kernel
set_option maxRecDepth 65536 in
set_option maxHeartbeats 40000000 in
theorem strI (l : Launch) (Z : State) (a0 : Array Value) (hw : ∀ d ∈ tables_1, d.before a0 Z = true) (n0 : Nat) (h : Heap) (O : Old Z n0 h) (s_DEF : Addr) (s_EL : Addr) (s_EA : Addr) (s_EM : Addr) (cs : Int32) (mr : Addr) (H : En Z s_DEF s_EL s_EA s_EM cs mr) (a : Addr) (b : Addr) (ga : n0 ≤ a) (E0 : Exa Z h a "java/lang/String") (F_value : Fld Z h a "java/lang/String" "value" "[B" .null) (F_coder : Fld Z h a "java/lang/String" "coder" "B" (.int (0 : Int32))) : Con l Z (⟨"java/lang/String", "<init>", "([BB)V"⟩ : MethodName) jdk_42_method_151_code 3 none ({ frames := 1, cells := 0, slots := 0, locals := 12 } : Room) #[(.ref a), (.ref b), (.int (0 : Int32))] h n0 (fun v h' => v = none ∧ Keep h h' [a]) := by
  refine Con.mk (Ls := #[.val (.ref a), .val (.ref b), .val (.int (0 : Int32))]) (plainFor_of_name pn_6) (fun m => by first | (simp [entryFrame, mkF, argsToLocals, Value.category]; done) | rfl) (fun w C => ?_)
  replace C : Cx w l Z "java/lang/String" jdk_42_method_151_code 3 none "<init>" ({ frames := 1, cells := 0, slots := 0, locals := 12 } : Room) n0 := C
  obtain ⟨S_DEF, E_DEF, V_DEF, S_EL, E_EL, F_EL, V_EA, S_EM, E_EM, S_CS, hcs, MIR⟩ := id H
  obtain ⟨kD, V_DEF⟩ := V_DEF
  obtain ⟨kEA, V_EA⟩ := V_EA
  refine g_aloadN C (pc' := 1) d4_0 rfl rfl rfl ?_
  refine g_initO C (pc' := 4) (wd hw 25 rfl) (wd hw 26 rfl) (wd hw 27 rfl) d4_1 rfl rfl (Nat.le_of_ble_eq_true rfl) (Nat.le_of_ble_eq_true rfl) rfl ?_
  refine g_aloadN C (pc' := 5) d4_4 rfl rfl rfl ?_
  refine g_aloadN C (pc' := 6) d4_5 rfl rfl rfl ?_
  refine g_putF C (pc' := 9) (ty := (.array .byte)) (wd hw 28 rfl) Via.refl d4_6 rfl F_value E0 (Or.inr ⟨(wd hw 29 rfl), rfl, rfl⟩) (wd hw 16 rfl) (by decide) rfl rfl ga rfl (fun h15 W16 => ?_)
  have f17 := O.wr W16 ga
  have f18 := (Keep.refl h [a]).wr W16 (Or.inl (List.mem_of_getElem? (i := 0) rfl))
  have f19 := E0.wr W16
  have f20 := F_value.same W16
  have f21 := F_coder.other W16 (Or.inr (slot_ne (Or.inr (wd hw 31 rfl)) (Or.inr (wd hw 29 rfl)) (by decide) (t := .byte) (t' := (.array .byte)) (by decide) (by decide)))
  refine g_aloadN C (pc' := 10) d4_9 rfl rfl rfl ?_
  refine g_iloadN C (pc' := 11) d4_10 rfl rfl ?_
  refine g_putFN C (pc' := 14) (v' := (.int (0 : Int32))) (ty := .byte) (wd hw 30 rfl) Via.refl d4_11 rfl f21 f19 (Or.inr ⟨(wd hw 31 rfl), rfl, rfl⟩) (wd hw 16 rfl) (by decide) rfl rfl ga rfl (fun h22 W23 => ?_)
  have f24 := f17.wr W23 ga
  have f25 := f18.wr W23 (Or.inl (List.mem_of_getElem? (i := 0) rfl))
  have f26 := f19.wr W23
  have f27 := f20.other W23 (Or.inr (slot_ne (Or.inr (wd hw 29 rfl)) (Or.inr (wd hw 31 rfl)) (by decide) (t := (.array .byte)) (t' := .byte) (by decide) (by decide)))
  have f28 := f21.same W23
  exact g_return C d4_14 rfl (Nat.le_of_ble_eq_true rfl) (Nat.le_of_ble_eq_true rfl) (⟨rfl, f25⟩)
theorem d1_0 : decode jdk_42_method_139_code 0 = .ok (.getstatic 38, 3) := by decide +kernel
theorem d1_3 : decode jdk_42_method_139_code 3 = .ok (.ifCond .eq 23, 3) := by decide +kernel
theorem d1_6 : decode jdk_42_method_139_code 6 = .ok (.iload_n 0, 1) := by decide +kernel
theorem d1_7 : decode jdk_42_method_139_code 7 = .ok (.invokestatic 1015, 3) := by decide +kernel
theorem pd_1 : parseMethodDescriptor "(C)Z" = some ⟨[.char], some .boolean⟩ := by decide +kernel
theorem d1_10 : decode jdk_42_method_139_code 10 = .ok (.ifCond .eq 16, 3) := by decide +kernel
theorem d1_13 : decode jdk_42_method_139_code 13 = .ok (.new 10, 3) := by decide +kernel
theorem d1_16 : decode jdk_42_method_139_code 16 = .ok (.dup, 1) := by decide +kernel
theorem d1_17 : decode jdk_42_method_139_code 17 = .ok (.iload_n 0, 1) := by decide +kernel
theorem d1_18 : decode jdk_42_method_139_code 18 = .ok (.invokestatic 1018, 3) := by decide +kernel
theorem pd_2 : parseMethodDescriptor "(C)[B" = some ⟨[.char], some (.array .byte)⟩ := by decide +kernel
theorem d1_21 : decode jdk_42_method_139_code 21 = .ok (.iconst 0, 1) := by decide +kernel
theorem d1_22 : decode jdk_42_method_139_code 22 = .ok (.invokespecial 209, 3) := by decide +kernel
theorem pd_3 : parseMethodDescriptor "([BB)V" = some ⟨[(.array .byte), .byte], none⟩ := by decide +kernel
theorem d1_25 : decode jdk_42_method_139_code 25 = .ok (.areturn, 1) := by decide +kernel
set_option maxRecDepth 65536 in
set_option maxHeartbeats 40000000 in
theorem valueOf (l : Launch) (Z : State) (a0 : Array Value) (hw : ∀ d ∈ tables_1, d.before a0 Z = true) (n0 : Nat) (h : Heap) (O : Old Z n0 h) (s_DEF : Addr) (s_EL : Addr) (s_EA : Addr) (s_EM : Addr) (cs : Int32) (mr : Addr) (H : En Z s_DEF s_EL s_EA s_EM cs mr) (c : Int32) (hc : ¬ (255 : Int32) < c) : Con l Z (⟨"java/lang/String", "valueOf", "(C)Ljava/lang/String;"⟩ : MethodName) jdk_42_method_139_code 1 (some (.object "java/lang/String")) ({ frames := 2, cells := 2, slots := 5, locals := 27 } : Room) #[(.int c)] h n0 (fun v h' => ∃ g, v = some (.ref g) ∧ h.size ≤ g ∧ Keep h h' []) := by
  refine Con.mk (Ls := #[.val (.int c)]) (plainFor_of_name pn_6) (fun m => by first | (simp [entryFrame, mkF, argsToLocals, Value.category]; done) | rfl) (fun w C => ?_)
  replace C : Cx w l Z "java/lang/String" jdk_42_method_139_code 1 (some (.object "java/lang/String")) "valueOf" ({ frames := 2, cells := 2, slots := 5, locals := 27 } : Room) n0 := C
  obtain ⟨S_DEF, E_DEF, V_DEF, S_EL, E_EL, F_EL, V_EA, S_EM, E_EM, S_CS, hcs, MIR⟩ := id H
  obtain ⟨kD, V_DEF⟩ := V_DEF
  obtain ⟨kEA, V_EA⟩ := V_EA
  refine g_getS C (pc' := 3) (wd hw 10 rfl) Via.refl d1_0 (S_CS.ext O.2) rfl ?_
  refine g_ifN C (pc' := 6) d1_3 rfl (says_f (cd := .eq) (hcs)) rfl ?_
  refine g_iloadN C (pc' := 7) d1_6 rfl rfl ?_
  refine g_callS C (pc' := 10) (k' := 0) (n' := 0) (argsL := [(.int c)]) (rest := []) (wd hw 11 rfl) (wd hw 12 rfl) (wd hw 13 rfl) (wd hw 14 rfl) (by decide) d1_7 pd_1 rfl rfl rfl (canEnc l Z a0 hw n0 h O s_DEF s_EL s_EA s_EM cs mr H c hc) (Nat.le_of_ble_eq_true rfl) (Nat.le_of_ble_eq_true rfl) (Nat.le_of_ble_eq_true rfl) (Nat.le_of_ble_eq_true rfl) rfl rfl rfl (fun v30 h29 q31 => ?_)
  obtain ⟨rfl, eh29⟩ := q31
  subst h29
  show G w _ h 0 0 10 #[.val (.int c)] [(.int (1 : Int32))]
  refine g_ifN C (pc' := 13) d1_10 rfl (by decide) rfl ?_
  refine g_new C (pc' := 16) (k' := 1) (n' := 4) (wd hw 15 rfl) (wd hw 16 rfl) (wd hw 8 rfl) d1_13 (by decide) (by decide) rfl rfl rfl (fun h32 b33 ex34 E35 A36 D37 => ?_)
  have ge_b33 : n0 ≤ b33 := by rw [ex34]; exact O.1 ▸ O.2.1
  have sz_b33 : h.size ≤ b33 := by rw [ex34]; exact (Keep.refl h []).1
  have f38 := O.ext E35
  have f39 := (Keep.refl h []).ext E35
  have F_value_b33 : Fld Z h32 b33 "java/lang/String" "value" "[B" .null := D37 (Or.inr (wd hw 29 rfl)) (ty := (.array .byte)) (by decide)
  have F_coder_b33 : Fld Z h32 b33 "java/lang/String" "coder" "B" (.int (0 : Int32)) := D37 (Or.inr (wd hw 31 rfl)) (ty := .byte) (by decide)
  refine g_dup C (pc' := 17) d1_16 rfl rfl rfl ?_
  refine g_iloadN C (pc' := 18) d1_17 rfl rfl ?_
  refine g_callS C (pc' := 21) (k' := 2) (n' := 5) (argsL := [(.int c)]) (rest := [(.ref b33), (.ref b33)]) (wd hw 17 rfl) (wd hw 18 rfl) (wd hw 13 rfl) (wd hw 19 rfl) (by decide) d1_18 pd_2 rfl rfl rfl (toB l Z a0 hw n0 h32 f38 s_DEF s_EL s_EA s_EM cs mr H c) (Nat.le_of_ble_eq_true rfl) (Nat.le_of_ble_eq_true rfl) (Nat.le_of_ble_eq_true rfl) (Nat.le_of_ble_eq_true rfl) rfl rfl rfl (fun v41 h40 q42 => ?_)
  obtain ⟨bb, rfl, q1, q2⟩ := q42
  have ne_b33_bb : b33 ≠ bb := Nat.ne_of_lt (Nat.lt_of_lt_of_le A36.lt q1)
  have ge_bb : n0 ≤ bb := Nat.le_trans (f38.1 ▸ f38.2.1) q1
  have sz_bb : h.size ≤ bb := Nat.le_trans f39.1 q1
  have f43 := f38.keep q2 all0
  have f44 := f39.trans q2 all0
  have f45 := A36.keep q2
  have f46 := F_value_b33.keep q2 nin0
  have f47 := F_coder_b33.keep q2 nin0
  show G w _ h40 2 5 21 #[.val (.int c)] [(.ref bb), (.ref b33), (.ref b33)]
  refine g_iconst C (pc' := 22) (v := (0 : Int32)) d1_21 (by decide) rfl ?_
  refine g_special C (pc' := 25) (k' := 2) (n' := 5) (argsL := [(.ref bb), (.int (0 : Int32))]) (rest := [(.ref b33)]) (wd hw 21 rfl) (wd hw 22 rfl) (wd hw 8 rfl) (wd hw 24 rfl) (by decide) rfl d1_22 pd_3 rfl rfl rfl (strI l Z a0 hw n0 h40 f43 s_DEF s_EL s_EA s_EM cs mr H b33 bb ge_b33 f45 f46 f47) (Nat.le_of_ble_eq_true rfl) (Nat.le_of_ble_eq_true rfl) (Nat.le_of_ble_eq_true rfl) (Nat.le_of_ble_eq_true rfl) rfl rfl rfl (fun v50 h49 q51 => ?_)
  obtain ⟨rfl, K48⟩ := q51
  have f52 := f43.keep K48 (allS ge_b33 all0)
  have f53 := f44.trans K48 (allS (Or.inr sz_b33) all0)
  have f54 := f45.keep K48
  show G w _ h49 2 5 25 #[.val (.int c)] [(.ref b33)]
  exact g_areturn C d1_25 rfl rfl rfl rfl (Nat.le_of_ble_eq_true rfl) (Nat.le_of_ble_eq_true rfl) (⟨b33, rfl, sz_b33, f53⟩)
theorem d6_0 : decode prog_31_method_1_code 0 = .ok (.aload_n 0, 1) := by decide +kernel
theorem d6_1 : decode prog_31_method_1_code 1 = .ok (.invokespecial 1, 3) := by decide +kernel
theorem d6_4 : decode prog_31_method_1_code 4 = .ok (.aload_n 0, 1) := by decide +kernel
theorem d6_5 : decode prog_31_method_1_code 5 = .ok (.aload_n 1, 1) := by decide +kernel
theorem d6_6 : decode prog_31_method_1_code 6 = .ok (.putfield 7, 3) := by decide +kernel
theorem d6_9 : decode prog_31_method_1_code 9 = .ok (.aload_n 0, 1) := by decide +kernel
theorem d6_10 : decode prog_31_method_1_code 10 = .ok (.aload_n 2, 1) := by decide +kernel
theorem d6_11 : decode prog_31_method_1_code 11 = .ok (.putfield 13, 3) := by decide +kernel
theorem d6_14 : decode prog_31_method_1_code 14 = .ok (.return_, 1) := by decide +kernel
theorem pn_1 : plainName "com/example/plumbline/plumbline/Grade" = true := by first | (simp [plainName, overriddenIn]; done) | decide +kernel
set_option maxRecDepth 65536 in
set_option maxHeartbeats 40000000 in
theorem grI (l : Launch) (Z : State) (a0 : Array Value) (hw : ∀ d ∈ tables_1, d.before a0 Z = true) (n0 : Nat) (h : Heap) (O : Old Z n0 h) (s_DEF : Addr) (s_EL : Addr) (s_EA : Addr) (s_EM : Addr) (cs : Int32) (mr : Addr) (H : En Z s_DEF s_EL s_EA s_EM cs mr) (a : Addr) (b : Addr) (ga : n0 ≤ a) (E0 : Exa Z h a "com/example/plumbline/plumbline/Grade") (F_name : Fld Z h a "com/example/plumbline/plumbline/Grade" "name" "Ljava/lang/String;" .null) (F_overall : Fld Z h a "com/example/plumbline/plumbline/Grade" "overall" "Ljava/lang/String;" .null) : Con l Z (⟨"com/example/plumbline/plumbline/Grade", "<init>", "(Ljava/lang/String;Ljava/lang/String;)V"⟩ : MethodName) prog_31_method_1_code 3 none ({ frames := 1, cells := 0, slots := 0, locals := 12 } : Room) #[(.ref a), (.ref b), .null] h n0 (fun v h' => v = none ∧ Keep h h' [a]) := by
  refine Con.mk (Ls := #[.val (.ref a), .val (.ref b), .val .null]) (plainFor_of_name pn_1) (fun m => by first | (simp [entryFrame, mkF, argsToLocals, Value.category]; done) | rfl) (fun w C => ?_)
  replace C : Cx w l Z "com/example/plumbline/plumbline/Grade" prog_31_method_1_code 3 none "<init>" ({ frames := 1, cells := 0, slots := 0, locals := 12 } : Room) n0 := C
  obtain ⟨S_DEF, E_DEF, V_DEF, S_EL, E_EL, F_EL, V_EA, S_EM, E_EM, S_CS, hcs, MIR⟩ := id H
  obtain ⟨kD, V_DEF⟩ := V_DEF
  obtain ⟨kEA, V_EA⟩ := V_EA
  refine g_aloadN C (pc' := 1) d6_0 rfl rfl rfl ?_
  refine g_initO C (pc' := 4) (wd hw 35 rfl) (wd hw 26 rfl) (wd hw 27 rfl) d6_1 rfl rfl (Nat.le_of_ble_eq_true rfl) (Nat.le_of_ble_eq_true rfl) rfl ?_
  refine g_aloadN C (pc' := 5) d6_4 rfl rfl rfl ?_
  refine g_aloadN C (pc' := 6) d6_5 rfl rfl rfl ?_
  refine g_putF C (pc' := 9) (ty := (.object "java/lang/String")) (wd hw 36 rfl) Via.refl d6_6 rfl F_name E0 (Or.inr ⟨(wd hw 37 rfl), rfl, rfl⟩) (wd hw 4 rfl) (by decide) rfl rfl ga rfl (fun h55 W56 => ?_)
  have f57 := O.wr W56 ga
  have f58 := (Keep.refl h [a]).wr W56 (Or.inl (List.mem_of_getElem? (i := 0) rfl))
  have f59 := E0.wr W56
  have f60 := F_name.same W56
  have f61 := F_overall.other W56 (Or.inr (slot_ne (Or.inr (wd hw 39 rfl)) (Or.inr (wd hw 37 rfl)) (by decide) (t := (.object "java/lang/String")) (t' := (.object "java/lang/String")) (by decide) (by decide)))
  refine g_aloadN C (pc' := 10) d6_9 rfl rfl rfl ?_
  refine g_aloadN C (pc' := 11) d6_10 rfl rfl rfl ?_
  refine g_putF C (pc' := 14) (ty := (.object "java/lang/String")) (wd hw 38 rfl) Via.refl d6_11 rfl f61 f59 (Or.inr ⟨(wd hw 39 rfl), rfl, rfl⟩) (wd hw 4 rfl) (by decide) rfl rfl ga rfl (fun h62 W63 => ?_)
  have f64 := f57.wr W63 ga
  have f65 := f58.wr W63 (Or.inl (List.mem_of_getElem? (i := 0) rfl))
  have f66 := f59.wr W63
  have f67 := f60.other W63 (Or.inr (slot_ne (Or.inr (wd hw 37 rfl)) (Or.inr (wd hw 39 rfl)) (by decide) (t := (.object "java/lang/String")) (t' := (.object "java/lang/String")) (by decide) (by decide)))
  have f68 := f61.same W63
  exact g_return C d6_14 rfl (Nat.le_of_ble_eq_true rfl) (Nat.le_of_ble_eq_true rfl) (⟨rfl, f65⟩)
theorem d7_0 : decode prog_6_method_1_code 0 = .ok (.aload_n 0, 1) := by decide +kernel
theorem d7_1 : decode prog_6_method_1_code 1 = .ok (.invokespecial 1, 3) := by decide +kernel
theorem d7_4 : decode prog_6_method_1_code 4 = .ok (.aload_n 0, 1) := by decide +kernel
theorem d7_5 : decode prog_6_method_1_code 5 = .ok (.aload_n 1, 1) := by decide +kernel
theorem d7_6 : decode prog_6_method_1_code 6 = .ok (.putfield 7, 3) := by decide +kernel
theorem d7_9 : decode prog_6_method_1_code 9 = .ok (.aload_n 0, 1) := by decide +kernel
theorem d7_10 : decode prog_6_method_1_code 10 = .ok (.iload_n 2, 1) := by decide +kernel
theorem d7_11 : decode prog_6_method_1_code 11 = .ok (.putfield 13, 3) := by decide +kernel
theorem d7_14 : decode prog_6_method_1_code 14 = .ok (.aload_n 0, 1) := by decide +kernel
theorem d7_15 : decode prog_6_method_1_code 15 = .ok (.aload_n 3, 1) := by decide +kernel
theorem d7_16 : decode prog_6_method_1_code 16 = .ok (.putfield 17, 3) := by decide +kernel
theorem d7_19 : decode prog_6_method_1_code 19 = .ok (.aload_n 0, 1) := by decide +kernel
theorem d7_20 : decode prog_6_method_1_code 20 = .ok (.iload 4, 2) := by decide +kernel
theorem d7_22 : decode prog_6_method_1_code 22 = .ok (.putfield 20, 3) := by decide +kernel
theorem d7_25 : decode prog_6_method_1_code 25 = .ok (.aload_n 0, 1) := by decide +kernel
theorem d7_26 : decode prog_6_method_1_code 26 = .ok (.aload 5, 2) := by decide +kernel
theorem d7_28 : decode prog_6_method_1_code 28 = .ok (.putfield 23, 3) := by decide +kernel
theorem d7_31 : decode prog_6_method_1_code 31 = .ok (.return_, 1) := by decide +kernel
theorem pn_0 : plainName "com/example/plumbline/plumbline/Band" = true := by first | (simp [plainName, overriddenIn]; done) | decide +kernel
set_option maxRecDepth 65536 in
set_option maxHeartbeats 40000000 in
theorem bdI (l : Launch) (Z : State) (a0 : Array Value) (hw : ∀ d ∈ tables_1, d.before a0 Z = true) (n0 : Nat) (h : Heap) (O : Old Z n0 h) (s_DEF : Addr) (s_EL : Addr) (s_EA : Addr) (s_EM : Addr) (cs : Int32) (mr : Addr) (H : En Z s_DEF s_EL s_EA s_EM cs mr) (a : Addr) (b : Addr) (ga : n0 ≤ a) (E0 : Exa Z h a "com/example/plumbline/plumbline/Band") (F_lower : Fld Z h a "com/example/plumbline/plumbline/Band" "lower" "Lcom/example/plumbline/plumbline/Points;" .null) (F_lowerHeld : Fld Z h a "com/example/plumbline/plumbline/Band" "lowerHeld" "Z" (.int (0 : Int32))) (F_upper : Fld Z h a "com/example/plumbline/plumbline/Band" "upper" "Lcom/example/plumbline/plumbline/Points;" .null) (F_upperHeld : Fld Z h a "com/example/plumbline/plumbline/Band" "upperHeld" "Z" (.int (0 : Int32))) (F_gives : Fld Z h a "com/example/plumbline/plumbline/Band" "gives" "Ljava/lang/Object;" .null) : Con l Z (⟨"com/example/plumbline/plumbline/Band", "<init>", "(Lcom/example/plumbline/plumbline/Points;ZLcom/example/plumbline/plumbline/Points;ZLjava/lang/Object;)V"⟩ : MethodName) prog_6_method_1_code 6 none ({ frames := 1, cells := 0, slots := 0, locals := 12 } : Room) #[(.ref a), .null, (.int (1 : Int32)), .null, (.int (1 : Int32)), (.ref b)] h n0 (fun v h' => v = none ∧ Keep h h' [a]) := by
  refine Con.mk (Ls := #[.val (.ref a), .val .null, .val (.int (1 : Int32)), .val .null, .val (.int (1 : Int32)), .val (.ref b)]) (plainFor_of_name pn_0) (fun m => by first | (simp [entryFrame, mkF, argsToLocals, Value.category]; done) | rfl) (fun w C => ?_)
  replace C : Cx w l Z "com/example/plumbline/plumbline/Band" prog_6_method_1_code 6 none "<init>" ({ frames := 1, cells := 0, slots := 0, locals := 12 } : Room) n0 := C
  obtain ⟨S_DEF, E_DEF, V_DEF, S_EL, E_EL, F_EL, V_EA, S_EM, E_EM, S_CS, hcs, MIR⟩ := id H
  obtain ⟨kD, V_DEF⟩ := V_DEF
  obtain ⟨kEA, V_EA⟩ := V_EA
  refine g_aloadN C (pc' := 1) d7_0 rfl rfl rfl ?_
  refine g_initO C (pc' := 4) (wd hw 43 rfl) (wd hw 26 rfl) (wd hw 27 rfl) d7_1 rfl rfl (Nat.le_of_ble_eq_true rfl) (Nat.le_of_ble_eq_true rfl) rfl ?_
  refine g_aloadN C (pc' := 5) d7_4 rfl rfl rfl ?_
  refine g_aloadN C (pc' := 6) d7_5 rfl rfl rfl ?_
  refine g_putF C (pc' := 9) (ty := (.object "com/example/plumbline/plumbline/Points")) (wd hw 44 rfl) Via.refl d7_6 rfl F_lower E0 (Or.inr ⟨(wd hw 45 rfl), rfl, rfl⟩) (wd hw 1 rfl) (by decide) rfl rfl ga rfl (fun h69 W70 => ?_)
  have f71 := O.wr W70 ga
  have f72 := (Keep.refl h [a]).wr W70 (Or.inl (List.mem_of_getElem? (i := 0) rfl))
  have f73 := E0.wr W70
  have f74 := F_lower.same W70
  have f75 := F_lowerHeld.other W70 (Or.inr (slot_ne (Or.inr (wd hw 47 rfl)) (Or.inr (wd hw 45 rfl)) (by decide) (t := .boolean) (t' := (.object "com/example/plumbline/plumbline/Points")) (by decide) (by decide)))
  have f76 := F_upper.other W70 (Or.inr (slot_ne (Or.inr (wd hw 49 rfl)) (Or.inr (wd hw 45 rfl)) (by decide) (t := (.object "com/example/plumbline/plumbline/Points")) (t' := (.object "com/example/plumbline/plumbline/Points")) (by decide) (by decide)))
  have f77 := F_upperHeld.other W70 (Or.inr (slot_ne (Or.inr (wd hw 51 rfl)) (Or.inr (wd hw 45 rfl)) (by decide) (t := .boolean) (t' := (.object "com/example/plumbline/plumbline/Points")) (by decide) (by decide)))
  have f78 := F_gives.other W70 (Or.inr (slot_ne (Or.inr (wd hw 53 rfl)) (Or.inr (wd hw 45 rfl)) (by decide) (t := (.object "java/lang/Object")) (t' := (.object "com/example/plumbline/plumbline/Points")) (by decide) (by decide)))
  refine g_aloadN C (pc' := 10) d7_9 rfl rfl rfl ?_
  refine g_iloadN C (pc' := 11) d7_10 rfl rfl ?_
  refine g_putFN C (pc' := 14) (v' := (.int (1 : Int32))) (ty := .boolean) (wd hw 46 rfl) Via.refl d7_11 rfl f75 f73 (Or.inr ⟨(wd hw 47 rfl), rfl, rfl⟩) (wd hw 1 rfl) (by decide) rfl rfl ga rfl (fun h79 W80 => ?_)
  have f81 := f71.wr W80 ga
  have f82 := f72.wr W80 (Or.inl (List.mem_of_getElem? (i := 0) rfl))
  have f83 := f73.wr W80
  have f84 := f74.other W80 (Or.inr (slot_ne (Or.inr (wd hw 45 rfl)) (Or.inr (wd hw 47 rfl)) (by decide) (t := (.object "com/example/plumbline/plumbline/Points")) (t' := .boolean) (by decide) (by decide)))
  have f85 := f75.same W80
  have f86 := f76.other W80 (Or.inr (slot_ne (Or.inr (wd hw 49 rfl)) (Or.inr (wd hw 47 rfl)) (by decide) (t := (.object "com/example/plumbline/plumbline/Points")) (t' := .boolean) (by decide) (by decide)))
  have f87 := f77.other W80 (Or.inr (slot_ne (Or.inr (wd hw 51 rfl)) (Or.inr (wd hw 47 rfl)) (by decide) (t := .boolean) (t' := .boolean) (by decide) (by decide)))
  have f88 := f78.other W80 (Or.inr (slot_ne (Or.inr (wd hw 53 rfl)) (Or.inr (wd hw 47 rfl)) (by decide) (t := (.object "java/lang/Object")) (t' := .boolean) (by decide) (by decide)))
  refine g_aloadN C (pc' := 15) d7_14 rfl rfl rfl ?_
  refine g_aloadN C (pc' := 16) d7_15 rfl rfl rfl ?_
  refine g_putF C (pc' := 19) (ty := (.object "com/example/plumbline/plumbline/Points")) (wd hw 48 rfl) Via.refl d7_16 rfl f86 f83 (Or.inr ⟨(wd hw 49 rfl), rfl, rfl⟩) (wd hw 1 rfl) (by decide) rfl rfl ga rfl (fun h89 W90 => ?_)
  have f91 := f81.wr W90 ga
  have f92 := f82.wr W90 (Or.inl (List.mem_of_getElem? (i := 0) rfl))
  have f93 := f83.wr W90
  have f94 := f84.other W90 (Or.inr (slot_ne (Or.inr (wd hw 45 rfl)) (Or.inr (wd hw 49 rfl)) (by decide) (t := (.object "com/example/plumbline/plumbline/Points")) (t' := (.object "com/example/plumbline/plumbline/Points")) (by decide) (by decide)))
  have f95 := f85.other W90 (Or.inr (slot_ne (Or.inr (wd hw 47 rfl)) (Or.inr (wd hw 49 rfl)) (by decide) (t := .boolean) (t' := (.object "com/example/plumbline/plumbline/Points")) (by decide) (by decide)))
  have f96 := f86.same W90
  have f97 := f87.other W90 (Or.inr (slot_ne (Or.inr (wd hw 51 rfl)) (Or.inr (wd hw 49 rfl)) (by decide) (t := .boolean) (t' := (.object "com/example/plumbline/plumbline/Points")) (by decide) (by decide)))
  have f98 := f88.other W90 (Or.inr (slot_ne (Or.inr (wd hw 53 rfl)) (Or.inr (wd hw 49 rfl)) (by decide) (t := (.object "java/lang/Object")) (t' := (.object "com/example/plumbline/plumbline/Points")) (by decide) (by decide)))
  refine g_aloadN C (pc' := 20) d7_19 rfl rfl rfl ?_
  refine g_iload C (pc' := 22) d7_20 rfl rfl ?_
  refine g_putFN C (pc' := 25) (v' := (.int (1 : Int32))) (ty := .boolean) (wd hw 50 rfl) Via.refl d7_22 rfl f97 f93 (Or.inr ⟨(wd hw 51 rfl), rfl, rfl⟩) (wd hw 1 rfl) (by decide) rfl rfl ga rfl (fun h99 W100 => ?_)
  have f101 := f91.wr W100 ga
  have f102 := f92.wr W100 (Or.inl (List.mem_of_getElem? (i := 0) rfl))
  have f103 := f93.wr W100
  have f104 := f94.other W100 (Or.inr (slot_ne (Or.inr (wd hw 45 rfl)) (Or.inr (wd hw 51 rfl)) (by decide) (t := (.object "com/example/plumbline/plumbline/Points")) (t' := .boolean) (by decide) (by decide)))
  have f105 := f95.other W100 (Or.inr (slot_ne (Or.inr (wd hw 47 rfl)) (Or.inr (wd hw 51 rfl)) (by decide) (t := .boolean) (t' := .boolean) (by decide) (by decide)))
  have f106 := f96.other W100 (Or.inr (slot_ne (Or.inr (wd hw 49 rfl)) (Or.inr (wd hw 51 rfl)) (by decide) (t := (.object "com/example/plumbline/plumbline/Points")) (t' := .boolean) (by decide) (by decide)))
  have f107 := f97.same W100
  have f108 := f98.other W100 (Or.inr (slot_ne (Or.inr (wd hw 53 rfl)) (Or.inr (wd hw 51 rfl)) (by decide) (t := (.object "java/lang/Object")) (t' := .boolean) (by decide) (by decide)))
  refine g_aloadN C (pc' := 26) d7_25 rfl rfl rfl ?_
  refine g_aload C (pc' := 28) d7_26 rfl rfl rfl ?_
  refine g_putF C (pc' := 31) (ty := (.object "java/lang/Object")) (wd hw 52 rfl) Via.refl d7_28 rfl f108 f103 (Or.inr ⟨(wd hw 53 rfl), rfl, rfl⟩) (wd hw 1 rfl) (by decide) rfl rfl ga rfl (fun h109 W110 => ?_)
  have f111 := f101.wr W110 ga
  have f112 := f102.wr W110 (Or.inl (List.mem_of_getElem? (i := 0) rfl))
  have f113 := f103.wr W110
  have f114 := f104.other W110 (Or.inr (slot_ne (Or.inr (wd hw 45 rfl)) (Or.inr (wd hw 53 rfl)) (by decide) (t := (.object "com/example/plumbline/plumbline/Points")) (t' := (.object "java/lang/Object")) (by decide) (by decide)))
  have f115 := f105.other W110 (Or.inr (slot_ne (Or.inr (wd hw 47 rfl)) (Or.inr (wd hw 53 rfl)) (by decide) (t := .boolean) (t' := (.object "java/lang/Object")) (by decide) (by decide)))
  have f116 := f106.other W110 (Or.inr (slot_ne (Or.inr (wd hw 49 rfl)) (Or.inr (wd hw 53 rfl)) (by decide) (t := (.object "com/example/plumbline/plumbline/Points")) (t' := (.object "java/lang/Object")) (by decide) (by decide)))
  have f117 := f107.other W110 (Or.inr (slot_ne (Or.inr (wd hw 51 rfl)) (Or.inr (wd hw 53 rfl)) (by decide) (t := .boolean) (t' := (.object "java/lang/Object")) (by decide) (by decide)))
  have f118 := f108.same W110
  exact g_return C d7_31 rfl (Nat.le_of_ble_eq_true rfl) (Nat.le_of_ble_eq_true rfl) (⟨rfl, f112⟩)
theorem d10_0 : decode jdk_22_method_1_code 0 = .ok (.aload_n 0, 1) := by decide +kernel
theorem d10_1 : decode jdk_22_method_1_code 1 = .ok (.invokespecial 1, 3) := by decide +kernel
theorem d10_4 : decode jdk_22_method_1_code 4 = .ok (.return_, 1) := by decide +kernel
theorem pn_8 : plainName "java/util/AbstractCollection" = true := by first | (simp [plainName, overriddenIn]; done) | decide +kernel
set_option maxRecDepth 65536 in
set_option maxHeartbeats 40000000 in
theorem acol_0 (l : Launch) (Z : State) (a0 : Array Value) (hw : ∀ d ∈ tables_1, d.before a0 Z = true) (n0 : Nat) (h : Heap) (O : Old Z n0 h) (s_DEF : Addr) (s_EL : Addr) (s_EA : Addr) (s_EM : Addr) (cs : Int32) (mr : Addr) (H : En Z s_DEF s_EL s_EA s_EM cs mr) (a : Addr) (E0 : Exa Z h a "java/util/ArrayList") : Con l Z (⟨"java/util/AbstractCollection", "<init>", "()V"⟩ : MethodName) jdk_22_method_1_code 1 none ({ frames := 1, cells := 0, slots := 0, locals := 12 } : Room) #[(.ref a)] h n0 (fun v h' => v = none ∧ h' = h) := by
  refine Con.mk (Ls := #[.val (.ref a)]) (plainFor_of_name pn_8) (fun m => by first | (simp [entryFrame, mkF, argsToLocals, Value.category]; done) | rfl) (fun w C => ?_)
  replace C : Cx w l Z "java/util/AbstractCollection" jdk_22_method_1_code 1 none "<init>" ({ frames := 1, cells := 0, slots := 0, locals := 12 } : Room) n0 := C
  obtain ⟨S_DEF, E_DEF, V_DEF, S_EL, E_EL, F_EL, V_EA, S_EM, E_EM, S_CS, hcs, MIR⟩ := id H
  obtain ⟨kD, V_DEF⟩ := V_DEF
  obtain ⟨kEA, V_EA⟩ := V_EA
  refine g_aloadN C (pc' := 1) d10_0 rfl rfl rfl ?_
  refine g_initO C (pc' := 4) (wd hw 72 rfl) (wd hw 26 rfl) (wd hw 27 rfl) d10_1 rfl rfl (Nat.le_of_ble_eq_true rfl) (Nat.le_of_ble_eq_true rfl) rfl ?_
  exact g_return C d10_4 rfl (Nat.le_of_ble_eq_true rfl) (Nat.le_of_ble_eq_true rfl) (⟨rfl, rfl⟩)
theorem d9_0 : decode jdk_39_method_1_code 0 = .ok (.aload_n 0, 1) := by decide +kernel
theorem d9_1 : decode jdk_39_method_1_code 1 = .ok (.invokespecial 1, 3) := by decide +kernel
theorem pd_4 : parseMethodDescriptor "()V" = some ⟨[], none⟩ := by decide +kernel
theorem d9_4 : decode jdk_39_method_1_code 4 = .ok (.aload_n 0, 1) := by decide +kernel
theorem d9_5 : decode jdk_39_method_1_code 5 = .ok (.iconst 0, 1) := by decide +kernel
theorem d9_6 : decode jdk_39_method_1_code 6 = .ok (.putfield 7, 3) := by decide +kernel
theorem d9_9 : decode jdk_39_method_1_code 9 = .ok (.return_, 1) := by decide +kernel
theorem pn_9 : plainName "java/util/AbstractList" = true := by first | (simp [plainName, overriddenIn]; done) | decide +kernel
set_option maxRecDepth 65536 in
set_option maxHeartbeats 40000000 in
theorem abl (l : Launch) (Z : State) (a0 : Array Value) (hw : ∀ d ∈ tables_1, d.before a0 Z = true) (n0 : Nat) (h : Heap) (O : Old Z n0 h) (s_DEF : Addr) (s_EL : Addr) (s_EA : Addr) (s_EM : Addr) (cs : Int32) (mr : Addr) (H : En Z s_DEF s_EL s_EA s_EM cs mr) (a : Addr) (ga : n0 ≤ a) (E0 : Exa Z h a "java/util/ArrayList") (F1 : Fld Z h a "java/util/AbstractList" "modCount" "I" (.int (0 : Int32))) : Con l Z (⟨"java/util/AbstractList", "<init>", "()V"⟩ : MethodName) jdk_39_method_1_code 1 none ({ frames := 2, cells := 0, slots := 0, locals := 24 } : Room) #[(.ref a)] h n0 (fun v h' => v = none ∧ Keep h h' [a] ∧ Exa Z h' a "java/util/ArrayList" ∧ Fld Z h' a "java/util/AbstractList" "modCount" "I" (.int (0 : Int32)) ∧ (∀ {C f d : String} {v : Value}, Laid Z a0 "java/util/ArrayList" C f d → (f ≠ "modCount") → (∃ t, parseFieldDescriptor d = some t) → Fld Z h a C f d v → Fld Z h' a C f d v)) := by
  refine Con.mk (Ls := #[.val (.ref a)]) (plainFor_of_name pn_9) (fun m => by first | (simp [entryFrame, mkF, argsToLocals, Value.category]; done) | rfl) (fun w C => ?_)
  replace C : Cx w l Z "java/util/AbstractList" jdk_39_method_1_code 1 none "<init>" ({ frames := 2, cells := 0, slots := 0, locals := 24 } : Room) n0 := C
  obtain ⟨S_DEF, E_DEF, V_DEF, S_EL, E_EL, F_EL, V_EA, S_EM, E_EM, S_CS, hcs, MIR⟩ := id H
  obtain ⟨kD, V_DEF⟩ := V_DEF
  obtain ⟨kEA, V_EA⟩ := V_EA
  refine g_aloadN C (pc' := 1) d9_0 rfl rfl rfl ?_
  refine g_special C (pc' := 4) (k' := 0) (n' := 0) (argsL := []) (rest := []) (wd hw 66 rfl) (wd hw 67 rfl) (wd hw 70 rfl) (wd hw 71 rfl) (by decide) rfl d9_1 pd_4 rfl rfl rfl (acol_0 l Z a0 hw n0 h O s_DEF s_EL s_EA s_EM cs mr H a E0) (Nat.le_of_ble_eq_true rfl) (Nat.le_of_ble_eq_true rfl) (Nat.le_of_ble_eq_true rfl) (Nat.le_of_ble_eq_true rfl) rfl rfl rfl (fun v120 h119 q121 => ?_)
  obtain ⟨rfl, eh119⟩ := q121
  subst h119
  show G w _ h 0 0 4 #[.val (.ref a)] []
  refine g_aloadN C (pc' := 5) d9_4 rfl rfl rfl ?_
  refine g_iconst C (pc' := 6) (v := (0 : Int32)) d9_5 (by decide) rfl ?_
  refine g_putF C (pc' := 9) (ty := .int) (wd hw 73 rfl) Via.refl d9_6 rfl F1 E0 (Or.inl (wd hw 74 rfl)) (wd hw 55 rfl) (by decide) rfl rfl ga rfl (fun h122 W123 => ?_)
  have f124 := O.wr W123 ga
  have f125 := (Keep.refl h [a]).wr W123 (Or.inl (List.mem_of_getElem? (i := 0) rfl))
  have f126 := E0.wr W123
  have f127 := F1.same W123
  exact g_return C d9_9 rfl (Nat.le_of_ble_eq_true rfl) (Nat.le_of_ble_eq_true rfl) (⟨rfl, f125, f126, f127, fun L q ⟨t, ht⟩ F => F.other W123 (Or.inr (slot_ne L (Or.inl (wd hw 74 rfl)) q ht (t' := .int) (by decide)))⟩)
theorem d8_0 : decode jdk_38_method_2_code 0 = .ok (.aload_n 0, 1) := by decide +kernel
theorem d8_1 : decode jdk_38_method_2_code 1 = .ok (.invokespecial 1, 3) := by decide +kernel
theorem d8_4 : decode jdk_38_method_2_code 4 = .ok (.aload_n 0, 1) := by decide +kernel
theorem d8_5 : decode jdk_38_method_2_code 5 = .ok (.getstatic 39, 3) := by decide +kernel
theorem d8_8 : decode jdk_38_method_2_code 8 = .ok (.putfield 9, 3) := by decide +kernel
theorem d8_11 : decode jdk_38_method_2_code 11 = .ok (.return_, 1) := by decide +kernel
theorem pn_10 : plainName "java/util/ArrayList" = true := by first | (simp [plainName, overriddenIn]; done) | decide +kernel
set_option maxRecDepth 65536 in
set_option maxHeartbeats 40000000 in
theorem al_init (l : Launch) (Z : State) (a0 : Array Value) (hw : ∀ d ∈ tables_1, d.before a0 Z = true) (n0 : Nat) (h : Heap) (O : Old Z n0 h) (s_DEF : Addr) (s_EL : Addr) (s_EA : Addr) (s_EM : Addr) (cs : Int32) (mr : Addr) (H : En Z s_DEF s_EL s_EA s_EM cs mr) (a : Addr) (ga : n0 ≤ a) (E0 : Exa Z h a "java/util/ArrayList") (F1 : Fld Z h a "java/util/AbstractList" "modCount" "I" (.int (0 : Int32))) (F2 : Fld Z h a "java/util/ArrayList" "elementData" "[Ljava/lang/Object;" .null) (F3 : Fld Z h a "java/util/ArrayList" "size" "I" (.int (0 : Int32))) : Con l Z (⟨"java/util/ArrayList", "<init>", "()V"⟩ : MethodName) jdk_38_method_2_code 1 none ({ frames := 3, cells := 0, slots := 0, locals := 36 } : Room) #[(.ref a)] h n0 (fun v h' => v = none ∧ Keep h h' [a] ∧ AL0 Z n0 h' a s_DEF (0 : Int32)) := by
  refine Con.mk (Ls := #[.val (.ref a)]) (plainFor_of_name pn_10) (fun m => by first | (simp [entryFrame, mkF, argsToLocals, Value.category]; done) | rfl) (fun w C => ?_)
  replace C : Cx w l Z "java/util/ArrayList" jdk_38_method_2_code 1 none "<init>" ({ frames := 3, cells := 0, slots := 0, locals := 36 } : Room) n0 := C
  obtain ⟨S_DEF, E_DEF, V_DEF, S_EL, E_EL, F_EL, V_EA, S_EM, E_EM, S_CS, hcs, MIR⟩ := id H
  obtain ⟨kD, V_DEF⟩ := V_DEF
  obtain ⟨kEA, V_EA⟩ := V_EA
  refine g_aloadN C (pc' := 1) d8_0 rfl rfl rfl ?_
  refine g_special C (pc' := 4) (k' := 0) (n' := 0) (argsL := []) (rest := []) (wd hw 60 rfl) (wd hw 61 rfl) (wd hw 64 rfl) (wd hw 65 rfl) (by decide) rfl d8_1 pd_4 rfl rfl rfl (abl l Z a0 hw n0 h O s_DEF s_EL s_EA s_EM cs mr H a ga E0 F1) (Nat.le_of_ble_eq_true rfl) (Nat.le_of_ble_eq_true rfl) (Nat.le_of_ble_eq_true rfl) (Nat.le_of_ble_eq_true rfl) rfl rfl rfl (fun v133 h132 q134 => ?_)
  obtain ⟨rfl, K128, E129, F130, T131⟩ := q134
  have f135 := O.keep K128 (allS ga all0)
  have f136 := (Keep.refl h [a]).trans K128 (allS (Or.inl (List.mem_of_getElem? (i := 0) rfl)) all0)
  have f137 := E0.keep K128
  have f138 := T131 (Or.inl (wd hw 77 rfl)) (by decide) ⟨_, (by decide : parseFieldDescriptor "[Ljava/lang/Object;" = some (.array (.object "java/lang/Object")))⟩ F2
  have f139 := T131 (Or.inl (wd hw 90 rfl)) (by decide) ⟨_, (by decide : parseFieldDescriptor "I" = some .int)⟩ F3
  show G w _ h132 0 0 4 #[.val (.ref a)] []
  refine g_aloadN C (pc' := 5) d8_4 rfl rfl rfl ?_
  refine g_getS C (pc' := 8) (wd hw 75 rfl) Via.refl d8_5 (S_DEF.ext f135.2) rfl ?_
  refine g_putF C (pc' := 11) (ty := (.array (.object "java/lang/Object"))) (wd hw 76 rfl) Via.refl d8_8 rfl f138 f137 (Or.inl (wd hw 77 rfl)) (wd hw 55 rfl) (by decide) rfl rfl ga rfl (fun h140 W141 => ?_)
  have f142 := f135.wr W141 ga
  have f143 := f136.wr W141 (Or.inl (List.mem_of_getElem? (i := 0) rfl))
  have f144 := f137.wr W141
  have f145 := F130.other W141 (Or.inr (slot_ne (Or.inl (wd hw 74 rfl)) (Or.inl (wd hw 77 rfl)) (by decide) (t := .int) (t' := (.array (.object "java/lang/Object"))) (by decide) (by decide)))
  have f146 := f138.same W141
  have f147 := f139.other W141 (Or.inr (slot_ne (Or.inl (wd hw 90 rfl)) (Or.inl (wd hw 77 rfl)) (by decide) (t := .int) (t' := (.array (.object "java/lang/Object"))) (by decide) (by decide)))
  exact g_return C d8_11 rfl (Nat.le_of_ble_eq_true rfl) (Nat.le_of_ble_eq_true rfl) (⟨rfl, f143, ga, f144, f145, f146, f147⟩)
theorem d15_0 : decode jdk_29_method_65_code 0 = .ok (.iload_n 0, 1) := by decide +kernel
theorem d15_1 : decode jdk_29_method_65_code 1 = .ok (.iload_n 1, 1) := by decide +kernel
theorem d15_2 : decode jdk_29_method_65_code 2 = .ok (.if_icmp .lt 7, 3) := by decide +kernel
theorem d15_5 : decode jdk_29_method_65_code 5 = .ok (.iload_n 0, 1) := by decide +kernel
theorem d15_6 : decode jdk_29_method_65_code 6 = .ok (.goto 4, 3) := by decide +kernel
theorem d15_10 : decode jdk_29_method_65_code 10 = .ok (.ireturn, 1) := by decide +kernel
set_option maxRecDepth 65536 in
set_option maxHeartbeats 40000000 in
theorem max_10_1 (l : Launch) (Z : State) (a0 : Array Value) (hw : ∀ d ∈ tables_1, d.before a0 Z = true) (n0 : Nat) (h : Heap) (O : Old Z n0 h) (s_DEF : Addr) (s_EL : Addr) (s_EA : Addr) (s_EM : Addr) (cs : Int32) (mr : Addr) (H : En Z s_DEF s_EL s_EA s_EM cs mr) : Con l Z (⟨"java/lang/Math", "max", "(II)I"⟩ : MethodName) jdk_29_method_65_code 2 (some .int) ({ frames := 0, cells := 0, slots := 0, locals := 0 } : Room) #[(.int (10 : Int32)), (.int (1 : Int32))] h n0 (fun v h' => v = some (.int (10 : Int32)) ∧ h' = h) := by
  refine Con.mk (Ls := #[.val (.int (10 : Int32)), .val (.int (1 : Int32))]) (Jvm.Free.JP.mathPlain rfl (by decide +kernel)) (fun m => by first | (simp [entryFrame, mkF, argsToLocals, Value.category]; done) | rfl) (fun w C => ?_)
  replace C : Cx w l Z "java/lang/Math" jdk_29_method_65_code 2 (some .int) "max" ({ frames := 0, cells := 0, slots := 0, locals := 0 } : Room) n0 := C
  obtain ⟨S_DEF, E_DEF, V_DEF, S_EL, E_EL, F_EL, V_EA, S_EM, E_EM, S_CS, hcs, MIR⟩ := id H
  refine g_iloadN C (pc' := 1) d15_0 rfl rfl ?_
  refine g_iloadN C (pc' := 2) d15_1 rfl rfl ?_
  refine g_icN C (pc' := 5) d15_2 rfl (by decide) rfl ?_
  refine g_iloadN C (pc' := 6) d15_5 rfl rfl ?_
  refine g_goto C (pc' := 10) d15_6 (by decide) rfl ?_
  exact g_ireturn C d15_10 rfl (Nat.le_of_ble_eq_true rfl) (Nat.le_of_ble_eq_true rfl) (⟨rfl, rfl⟩)
theorem d14_0 : decode jdk_38_method_6_code 0 = .ok (.aload_n 0, 1) := by decide +kernel
theorem d14_1 : decode jdk_38_method_6_code 1 = .ok (.getfield 9, 3) := by decide +kernel
theorem d14_4 : decode jdk_38_method_6_code 4 = .ok (.arraylength, 1) := by decide +kernel
theorem d14_5 : decode jdk_38_method_6_code 5 = .ok (.istore_n 2, 1) := by decide +kernel
theorem d14_6 : decode jdk_38_method_6_code 6 = .ok (.iload_n 2, 1) := by decide +kernel
theorem d14_7 : decode jdk_38_method_6_code 7 = .ok (.ifCond .gt 13, 3) := by decide +kernel
theorem d14_10 : decode jdk_38_method_6_code 10 = .ok (.aload_n 0, 1) := by decide +kernel
theorem d14_11 : decode jdk_38_method_6_code 11 = .ok (.getfield 9, 3) := by decide +kernel
theorem d14_14 : decode jdk_38_method_6_code 14 = .ok (.getstatic 39, 3) := by decide +kernel
theorem d14_17 : decode jdk_38_method_6_code 17 = .ok (.if_acmp .eq 28, 3) := by decide +kernel
theorem d14_45 : decode jdk_38_method_6_code 45 = .ok (.aload_n 0, 1) := by decide +kernel
theorem d14_46 : decode jdk_38_method_6_code 46 = .ok (.bipush 10, 2) := by decide +kernel
theorem d14_48 : decode jdk_38_method_6_code 48 = .ok (.iload_n 1, 1) := by decide +kernel
theorem d14_49 : decode jdk_38_method_6_code 49 = .ok (.invokestatic 79, 3) := by decide +kernel
theorem pd_11 : parseMethodDescriptor "(II)I" = some ⟨[.int, .int], some .int⟩ := by decide +kernel
theorem d14_52 : decode jdk_38_method_6_code 52 = .ok (.anewarray 7, 3) := by decide +kernel
theorem d14_55 : decode jdk_38_method_6_code 55 = .ok (.dup_x1, 1) := by decide +kernel
theorem d14_56 : decode jdk_38_method_6_code 56 = .ok (.putfield 9, 3) := by decide +kernel
theorem d14_59 : decode jdk_38_method_6_code 59 = .ok (.areturn, 1) := by decide +kernel
set_option maxRecDepth 65536 in
set_option maxHeartbeats 40000000 in
theorem growI (l : Launch) (Z : State) (a0 : Array Value) (hw : ∀ d ∈ tables_1, d.before a0 Z = true) (n0 : Nat) (h : Heap) (O : Old Z n0 h) (s_DEF : Addr) (s_EL : Addr) (s_EA : Addr) (s_EM : Addr) (cs : Int32) (mr : Addr) (H : En Z s_DEF s_EL s_EA s_EM cs mr) (a : Addr) (mc : Int32) (P : AL0 Z n0 h a s_DEF mc) : Con l Z (⟨"java/util/ArrayList", "grow", "(I)[Ljava/lang/Object;"⟩ : MethodName) jdk_38_method_6_code 4 (some (.array (.object "java/lang/Object"))) ({ frames := 1, cells := 1, slots := 10, locals := 14 } : Room) #[(.ref a), (.int (1 : Int32))] h n0 (fun v h' => ∃ g kG, v = some (.ref g) ∧ h.size ≤ g ∧ Keep h h' [a] ∧ Exa Z h' a "java/util/ArrayList" ∧ Exa Z h' g "[Ljava/lang/Object;" ∧ Ovr Z kG "java/lang/Object" ∧ Fld Z h' a "java/util/AbstractList" "modCount" "I" (.int mc) ∧ Fld Z h' a "java/util/ArrayList" "elementData" "[Ljava/lang/Object;" (.ref g) ∧ Fld Z h' a "java/util/ArrayList" "size" "I" (.int (0 : Int32)) ∧ Arv Z h' g kG (.object "java/lang/Object") (10 : Int32) [.null, .null, .null, .null, .null, .null, .null, .null, .null, .null] .null) := by
  refine Con.mk (Ls := #[.val (.ref a), .val (.int (1 : Int32)), .unset, .unset]) (plainFor_of_name pn_10) (fun m => by first | (simp [entryFrame, mkF, argsToLocals, Value.category]; done) | rfl) (fun w C => ?_)
  replace C : Cx w l Z "java/util/ArrayList" jdk_38_method_6_code 4 (some (.array (.object "java/lang/Object"))) "grow" ({ frames := 1, cells := 1, slots := 10, locals := 14 } : Room) n0 := C
  obtain ⟨S_DEF, E_DEF, V_DEF, S_EL, E_EL, F_EL, V_EA, S_EM, E_EM, S_CS, hcs, MIR⟩ := id H
  obtain ⟨kD, V_DEF⟩ := V_DEF
  obtain ⟨kEA, V_EA⟩ := V_EA
  obtain ⟨ga, E0, F1, F2, F3⟩ := P
  refine g_aloadN C (pc' := 1) d14_0 rfl rfl rfl ?_
  refine g_getF C (pc' := 4) (wd hw 76 rfl) Via.refl d14_1 rfl F2 rfl ?_
  refine g_alen C (pc' := 5) d14_4 rfl (V_DEF.ext O.2) rfl ?_
  refine g_istoreN C (pc' := 6) (Ls' := #[.val (.ref a), .val (.int (1 : Int32)), .val (.int (0 : Int32)), .unset]) d14_5 rfl rfl rfl ?_
  refine g_iloadN C (pc' := 7) d14_6 rfl rfl ?_
  refine g_ifN C (pc' := 10) d14_7 rfl (by decide) rfl ?_
  refine g_aloadN C (pc' := 11) d14_10 rfl rfl rfl ?_
  refine g_getF C (pc' := 14) (wd hw 76 rfl) Via.refl d14_11 rfl F2 rfl ?_
  refine g_getS C (pc' := 17) (wd hw 75 rfl) Via.refl d14_14 (S_DEF.ext O.2) rfl ?_
  refine g_acmp C (pc' := 45) (same := true) d14_17 rfl rfl rfl (decide_eq_true rfl) (by decide) (by decide) ?_
  refine g_aloadN C (pc' := 46) d14_45 rfl rfl rfl ?_
  refine g_bipush C (pc' := 48) (v := (10 : Int32)) d14_46 (by decide) rfl ?_
  refine g_iloadN C (pc' := 49) d14_48 rfl rfl ?_
  refine g_callS C (pc' := 52) (k' := 0) (n' := 0) (argsL := [(.int (10 : Int32)), (.int (1 : Int32))]) (rest := [(.ref a)]) (wd hw 106 rfl) (wd hw 107 rfl) (wd hw 108 rfl) (wd hw 109 rfl) (by decide) d14_49 pd_11 rfl rfl rfl (max_10_1 l Z a0 hw n0 h O s_DEF s_EL s_EA s_EM cs mr H) (Nat.le_of_ble_eq_true rfl) (Nat.le_of_ble_eq_true rfl) (Nat.le_of_ble_eq_true rfl) (Nat.le_of_ble_eq_true rfl) rfl rfl rfl (fun v149 h148 q150 => ?_)
  obtain ⟨rfl, eh148⟩ := q150
  subst h148
  show G w _ h 0 0 52 #[.val (.ref a), .val (.int (1 : Int32)), .val (.int (0 : Int32)), .unset] [(.int (10 : Int32)), (.ref a)]
  refine g_newRE C (pc' := 55) (k' := 1) (n' := 10) (cap := 10) (ad := "[Ljava/lang/Object;") (wd hw 110 rfl) (wd hw 111 rfl) (by decide) d14_52 rfl (by decide) (by decide) (by decide) (by decide) (by decide) rfl rfl rfl (fun h151 b152 kA153 ex154 E155 A156 B158 Ov157 => ?_)
  have ne_a_b152 : a ≠ b152 := Nat.ne_of_lt (by rw [ex154]; exact E0.lt)
  have ne_s_DEF_b152 : s_DEF ≠ b152 := Nat.ne_of_lt (by rw [ex154]; exact (V_DEF.ext O.2).lt)
  have ge_b152 : n0 ≤ b152 := by rw [ex154]; exact O.1 ▸ O.2.1
  have sz_b152 : h.size ≤ b152 := by rw [ex154]; exact (Keep.refl h [a]).1
  have f159 := O.ext E155
  have f160 := (Keep.refl h [a]).ext E155
  have f161 := E0.ext E155
  have f162 := F1.ext E155
  have f163 := F2.ext E155
  have f164 := F3.ext E155
  have f165 := (V_DEF.ext O.2).ext E155
  have A166 : Arv Z h151 b152 kA153 (.object "java/lang/Object") (10 : Int32) [.null, .null, .null, .null, .null, .null, .null, .null, .null, .null] .null := A156.pad (pad_rep [] .null 10)
  refine g_dup_x1 C (pc' := 56) d14_55 rfl rfl rfl rfl ?_
  refine g_putF C (pc' := 59) (ty := (.array (.object "java/lang/Object"))) (wd hw 76 rfl) Via.refl d14_56 rfl f163 f161 (Or.inl (wd hw 77 rfl)) (wd hw 55 rfl) (by decide) rfl rfl ga rfl (fun h167 W168 => ?_)
  have f169 := f159.wr W168 ga
  have f170 := f160.wr W168 (Or.inl (List.mem_of_getElem? (i := 0) rfl))
  have f171 := f161.wr W168
  have f172 := f162.other W168 (Or.inr (slot_ne (Or.inl (wd hw 74 rfl)) (Or.inl (wd hw 77 rfl)) (by decide) (t := .int) (t' := (.array (.object "java/lang/Object"))) (by decide) (by decide)))
  have f173 := f163.same W168
  have f174 := f164.other W168 (Or.inr (slot_ne (Or.inl (wd hw 90 rfl)) (Or.inl (wd hw 77 rfl)) (by decide) (t := .int) (t' := (.array (.object "java/lang/Object"))) (by decide) (by decide)))
  have f175 := f165.other W168 (O.ne V_DEF.lt ga)
  have f176 := A166.other W168 (Ne.symm ne_a_b152)
  have f177 := B158.wr W168
  exact g_areturn C d14_59 rfl rfl rfl rfl (Nat.le_of_ble_eq_true rfl) (Nat.le_of_ble_eq_true rfl) (⟨b152, kA153, rfl, sz_b152, f170, f171, f177, Ov157, f172, f173, f174, f176⟩)
theorem d13_0 : decode jdk_38_method_7_code 0 = .ok (.aload_n 0, 1) := by decide +kernel
theorem d13_1 : decode jdk_38_method_7_code 1 = .ok (.aload_n 0, 1) := by decide +kernel
theorem d13_2 : decode jdk_38_method_7_code 2 = .ok (.getfield 48, 3) := by decide +kernel
theorem d13_5 : decode jdk_38_method_7_code 5 = .ok (.iconst 1, 1) := by decide +kernel
theorem d13_6 : decode jdk_38_method_7_code 6 = .ok (.iadd, 1) := by decide +kernel
theorem d13_7 : decode jdk_38_method_7_code 7 = .ok (.invokevirtual 69, 3) := by decide +kernel
theorem pd_10 : parseMethodDescriptor "(I)[Ljava/lang/Object;" = some ⟨[.int], some (.array (.object "java/lang/Object"))⟩ := by decide +kernel
theorem d13_10 : decode jdk_38_method_7_code 10 = .ok (.areturn, 1) := by decide +kernel
set_option maxRecDepth 65536 in
set_option maxHeartbeats 40000000 in
theorem grow0 (l : Launch) (Z : State) (a0 : Array Value) (hw : ∀ d ∈ tables_1, d.before a0 Z = true) (n0 : Nat) (h : Heap) (O : Old Z n0 h) (s_DEF : Addr) (s_EL : Addr) (s_EA : Addr) (s_EM : Addr) (cs : Int32) (mr : Addr) (H : En Z s_DEF s_EL s_EA s_EM cs mr) (a : Addr) (mc : Int32) (P : AL0 Z n0 h a s_DEF mc) : Con l Z (⟨"java/util/ArrayList", "grow", "()[Ljava/lang/Object;"⟩ : MethodName) jdk_38_method_7_code 1 (some (.array (.object "java/lang/Object"))) ({ frames := 2, cells := 1, slots := 10, locals := 29 } : Room) #[(.ref a)] h n0 (fun v h' => ∃ g kG, v = some (.ref g) ∧ h.size ≤ g ∧ Keep h h' [a] ∧ Exa Z h' a "java/util/ArrayList" ∧ Exa Z h' g "[Ljava/lang/Object;" ∧ Ovr Z kG "java/lang/Object" ∧ Fld Z h' a "java/util/AbstractList" "modCount" "I" (.int mc) ∧ Fld Z h' a "java/util/ArrayList" "elementData" "[Ljava/lang/Object;" (.ref g) ∧ Fld Z h' a "java/util/ArrayList" "size" "I" (.int (0 : Int32)) ∧ Arv Z h' g kG (.object "java/lang/Object") (10 : Int32) [.null, .null, .null, .null, .null, .null, .null, .null, .null, .null] .null) := by
  refine Con.mk (Ls := #[.val (.ref a)]) (plainFor_of_name pn_10) (fun m => by first | (simp [entryFrame, mkF, argsToLocals, Value.category]; done) | rfl) (fun w C => ?_)
  replace C : Cx w l Z "java/util/ArrayList" jdk_38_method_7_code 1 (some (.array (.object "java/lang/Object"))) "grow" ({ frames := 2, cells := 1, slots := 10, locals := 29 } : Room) n0 := C
  obtain ⟨S_DEF, E_DEF, V_DEF, S_EL, E_EL, F_EL, V_EA, S_EM, E_EM, S_CS, hcs, MIR⟩ := id H
  obtain ⟨kD, V_DEF⟩ := V_DEF
  obtain ⟨kEA, V_EA⟩ := V_EA
  obtain ⟨ga, E0, F1, F2, F3⟩ := P
  refine g_aloadN C (pc' := 1) d13_0 rfl rfl rfl ?_
  refine g_aloadN C (pc' := 2) d13_1 rfl rfl rfl ?_
  refine g_getF C (pc' := 5) (wd hw 89 rfl) Via.refl d13_2 rfl F3 rfl ?_
  refine g_iconst C (pc' := 6) (v := (1 : Int32)) d13_5 (by decide) rfl ?_
  refine g_iadd C (pc' := 7) d13_6 rfl rfl ?_
  rw [show ((0 : Int32) + (1 : Int32)) = (1 : Int32) from by decide]
  refine g_private C (pc' := 10) (k' := 1) (n' := 10) (argsL := [(.int (1 : Int32))]) (rest := []) (wd hw 101 rfl) (wd hw 102 rfl) (wd hw 55 rfl) (wd hw 103 rfl) (wd hw 56 rfl) (wd hw 105 rfl) (by decide) d13_7 pd_10 rfl rfl rfl E0 (growI l Z a0 hw n0 h O s_DEF s_EL s_EA s_EM cs mr H a mc ⟨ga, E0, F1, F2, F3⟩) (Nat.le_of_ble_eq_true rfl) (Nat.le_of_ble_eq_true rfl) (Nat.le_of_ble_eq_true rfl) (Nat.le_of_ble_eq_true rfl) rfl rfl rfl (fun v179 h178 q180 => ?_)
  obtain ⟨g, kG, rfl, q1, q2, q3, q4, q5, q6, q7, q8, q9⟩ := q180
  have f181 := O.keep q2 (allS ga all0)
  have f182 := (Keep.refl h [a]).trans q2 (allS (Or.inl (List.mem_of_getElem? (i := 0) rfl)) all0)
  have f183 := E0.keep q2
  have f184 := (V_DEF.ext O.2).keep q2 (ninS (O.ne V_DEF.lt ga) nin0)
  show G w _ h178 1 10 10 #[.val (.ref a)] [(.ref g)]
  exact g_areturn C d13_10 rfl rfl rfl rfl (Nat.le_of_ble_eq_true rfl) (Nat.le_of_ble_eq_true rfl) (⟨g, kG, rfl, q1, q2, q3, q4, q5, q6, q7, q8, q9⟩)
theorem d12_0 : decode jdk_38_method_24_code 0 = .ok (.iload_n 3, 1) := by decide +kernel
theorem d12_1 : decode jdk_38_method_24_code 1 = .ok (.aload_n 2, 1) := by decide +kernel
theorem d12_2 : decode jdk_38_method_24_code 2 = .ok (.arraylength, 1) := by decide +kernel
theorem d12_3 : decode jdk_38_method_24_code 3 = .ok (.if_icmp .ne 8, 3) := by decide +kernel
theorem d12_6 : decode jdk_38_method_24_code 6 = .ok (.aload_n 0, 1) := by decide +kernel
theorem d12_7 : decode jdk_38_method_24_code 7 = .ok (.invokevirtual 129, 3) := by decide +kernel
theorem pd_9 : parseMethodDescriptor "()[Ljava/lang/Object;" = some ⟨[], some (.array (.object "java/lang/Object"))⟩ := by decide +kernel
theorem d12_10 : decode jdk_38_method_24_code 10 = .ok (.astore_n 2, 1) := by decide +kernel
theorem d12_11 : decode jdk_38_method_24_code 11 = .ok (.aload_n 2, 1) := by decide +kernel
theorem d12_12 : decode jdk_38_method_24_code 12 = .ok (.iload_n 3, 1) := by decide +kernel
theorem d12_13 : decode jdk_38_method_24_code 13 = .ok (.aload_n 1, 1) := by decide +kernel
theorem d12_14 : decode jdk_38_method_24_code 14 = .ok (.aastore, 1) := by decide +kernel
theorem d12_15 : decode jdk_38_method_24_code 15 = .ok (.aload_n 0, 1) := by decide +kernel
theorem d12_16 : decode jdk_38_method_24_code 16 = .ok (.iload_n 3, 1) := by decide +kernel
theorem d12_17 : decode jdk_38_method_24_code 17 = .ok (.iconst 1, 1) := by decide +kernel
theorem d12_18 : decode jdk_38_method_24_code 18 = .ok (.iadd, 1) := by decide +kernel
theorem d12_19 : decode jdk_38_method_24_code 19 = .ok (.putfield 48, 3) := by decide +kernel
theorem d12_22 : decode jdk_38_method_24_code 22 = .ok (.return_, 1) := by decide +kernel
set_option maxRecDepth 65536 in
set_option maxHeartbeats 40000000 in
theorem add3_0 (l : Launch) (Z : State) (a0 : Array Value) (hw : ∀ d ∈ tables_1, d.before a0 Z = true) (n0 : Nat) (h : Heap) (O : Old Z n0 h) (s_DEF : Addr) (s_EL : Addr) (s_EA : Addr) (s_EM : Addr) (cs : Int32) (mr : Addr) (H : En Z s_DEF s_EL s_EA s_EM cs mr) (a : Addr) (mc : Int32) (x : Addr) (Ex : Exa Z h x "com/example/plumbline/plumbline/Band") (P : AL0 Z n0 h a s_DEF mc) : Con l Z (⟨"java/util/ArrayList", "add", "(Ljava/lang/Object;[Ljava/lang/Object;I)V"⟩ : MethodName) jdk_38_method_24_code 4 none ({ frames := 3, cells := 1, slots := 10, locals := 41 } : Room) #[(.ref a), (.ref x), (.ref s_DEF), (.int (0 : Int32))] h n0 (fun v h' => v = none ∧ Keep h h' [a] ∧ ∃ ed kE, h.size ≤ ed ∧ AL1 Z n0 h' a ed kE mc (1 : Int32) [(.ref x), .null, .null, .null, .null, .null, .null, .null, .null, .null]) := by
  refine Con.mk (Ls := #[.val (.ref a), .val (.ref x), .val (.ref s_DEF), .val (.int (0 : Int32))]) (plainFor_of_name pn_10) (fun m => by first | (simp [entryFrame, mkF, argsToLocals, Value.category]; done) | rfl) (fun w C => ?_)
  replace C : Cx w l Z "java/util/ArrayList" jdk_38_method_24_code 4 none "add" ({ frames := 3, cells := 1, slots := 10, locals := 41 } : Room) n0 := C
  obtain ⟨S_DEF, E_DEF, V_DEF, S_EL, E_EL, F_EL, V_EA, S_EM, E_EM, S_CS, hcs, MIR⟩ := id H
  obtain ⟨kD, V_DEF⟩ := V_DEF
  obtain ⟨kEA, V_EA⟩ := V_EA
  obtain ⟨ga, E0, F1, F2, F3⟩ := P
  refine g_iloadN C (pc' := 1) d12_0 rfl rfl ?_
  refine g_aloadN C (pc' := 2) d12_1 rfl rfl rfl ?_
  refine g_alen C (pc' := 3) d12_2 rfl (V_DEF.ext O.2) rfl ?_
  refine g_icN C (pc' := 6) d12_3 rfl (by decide) rfl ?_
  refine g_aloadN C (pc' := 7) d12_6 rfl rfl rfl ?_
  refine g_private C (pc' := 10) (k' := 1) (n' := 10) (argsL := []) (rest := []) (wd hw 96 rfl) (wd hw 97 rfl) (wd hw 55 rfl) (wd hw 98 rfl) (wd hw 56 rfl) (wd hw 100 rfl) (by decide) d12_7 pd_9 rfl rfl rfl E0 (grow0 l Z a0 hw n0 h O s_DEF s_EL s_EA s_EM cs mr H a mc ⟨ga, E0, F1, F2, F3⟩) (Nat.le_of_ble_eq_true rfl) (Nat.le_of_ble_eq_true rfl) (Nat.le_of_ble_eq_true rfl) (Nat.le_of_ble_eq_true rfl) rfl rfl rfl (fun v186 h185 q187 => ?_)
  obtain ⟨g, kG, rfl, q1, q2, q3, q4, q5, q6, q7, q8, q9⟩ := q187
  have ne_a_g : a ≠ g := Nat.ne_of_lt (Nat.lt_of_lt_of_le E0.lt q1)
  have ne_s_DEF_g : s_DEF ≠ g := Nat.ne_of_lt (Nat.lt_of_lt_of_le (V_DEF.ext O.2).lt q1)
  have ne_x_g : x ≠ g := Nat.ne_of_lt (Nat.lt_of_lt_of_le Ex.lt q1)
  have ge_g : n0 ≤ g := Nat.le_trans (O.1 ▸ O.2.1) q1
  have sz_g : h.size ≤ g := Nat.le_trans (Keep.refl h [a]).1 q1
  have f188 := O.keep q2 (allS ga all0)
  have f189 := (Keep.refl h [a]).trans q2 (allS (Or.inl (List.mem_of_getElem? (i := 0) rfl)) all0)
  have f190 := E0.keep q2
  have f191 := (V_DEF.ext O.2).keep q2 (ninS (O.ne V_DEF.lt ga) nin0)
  have f192 := Ex.keep q2
  show G w _ h185 1 10 10 #[.val (.ref a), .val (.ref x), .val (.ref s_DEF), .val (.int (0 : Int32))] [(.ref g)]
  refine g_astoreN C (pc' := 11) (Ls' := #[.val (.ref a), .val (.ref x), .val (.ref g), .val (.int (0 : Int32))]) d12_10 rfl rfl rfl rfl ?_
  refine g_aloadN C (pc' := 12) d12_11 rfl rfl rfl ?_
  refine g_iloadN C (pc' := 13) d12_12 rfl rfl ?_
  refine g_aloadN C (pc' := 14) d12_13 rfl rfl rfl ?_
  refine g_aastore C (pc' := 15) d12_14 rfl q9 rfl (stoR q9 q5 (Ins.of_exa f192 (wd hw 112 rfl))) (by decide) (by decide) ge_g rfl (fun h193 W194 => ?_)
  have f195 := f188.wr W194 ge_g
  have f196 := f189.wr W194 (Or.inr sz_g)
  have f197 := q3.wr W194
  have f198 := f191.other W194 ne_s_DEF_g
  have f199 := f192.wr W194
  have f200 := q4.wr W194
  have f201 := q6.other W194 (Or.inl ne_a_g)
  have f202 := q7.other W194 (Or.inl ne_a_g)
  have f203 := q8.other W194 (Or.inl ne_a_g)
  have f204 := (arv_put q9 rfl W194 (i := 0) rfl (Nat.le_of_ble_eq_true rfl) : Arv Z h193 g kG (.object "java/lang/Object") (10 : Int32) [(.ref x), .null, .null, .null, .null, .null, .null, .null, .null, .null] .null)
  refine g_aloadN C (pc' := 16) d12_15 rfl rfl rfl ?_
  refine g_iloadN C (pc' := 17) d12_16 rfl rfl ?_
  refine g_iconst C (pc' := 18) (v := (1 : Int32)) d12_17 (by decide) rfl ?_
  refine g_iadd C (pc' := 19) d12_18 rfl rfl ?_
  rw [show ((0 : Int32) + (1 : Int32)) = (1 : Int32) from by decide]
  refine g_putF C (pc' := 22) (ty := .int) (wd hw 89 rfl) Via.refl d12_19 rfl f203 f197 (Or.inl (wd hw 90 rfl)) (wd hw 55 rfl) (by decide) rfl rfl ga rfl (fun h205 W206 => ?_)
  have f207 := f195.wr W206 ga
  have f208 := f196.wr W206 (Or.inl (List.mem_of_getElem? (i := 0) rfl))
  have f209 := f197.wr W206
  have f210 := f198.other W206 (O.ne V_DEF.lt ga)
  have f211 := f199.wr W206
  have f212 := f200.wr W206
  have f213 := f201.other W206 (Or.inr (slot_ne (Or.inl (wd hw 74 rfl)) (Or.inl (wd hw 90 rfl)) (by decide) (t := .int) (t' := .int) (by decide) (by decide)))
  have f214 := f202.other W206 (Or.inr (slot_ne (Or.inl (wd hw 77 rfl)) (Or.inl (wd hw 90 rfl)) (by decide) (t := (.array (.object "java/lang/Object"))) (t' := .int) (by decide) (by decide)))
  have f215 := f203.same W206
  have f216 := f204.other W206 (Ne.symm ne_a_g)
  exact g_return C d12_22 rfl (Nat.le_of_ble_eq_true rfl) (Nat.le_of_ble_eq_true rfl) (⟨rfl, f208, g, kG, sz_g, ga, ge_g, ne_a_g, q5, f209, f212, f213, f214, f215, f216⟩)
theorem d11_0 : decode jdk_38_method_25_code 0 = .ok (.aload_n 0, 1) := by decide +kernel
theorem d11_1 : decode jdk_38_method_25_code 1 = .ok (.dup, 1) := by decide +kernel
theorem d11_2 : decode jdk_38_method_25_code 2 = .ok (.getfield 63, 3) := by decide +kernel
theorem d11_5 : decode jdk_38_method_25_code 5 = .ok (.iconst 1, 1) := by decide +kernel
theorem d11_6 : decode jdk_38_method_25_code 6 = .ok (.iadd, 1) := by decide +kernel
theorem d11_7 : decode jdk_38_method_25_code 7 = .ok (.putfield 63, 3) := by decide +kernel
theorem d11_10 : decode jdk_38_method_25_code 10 = .ok (.aload_n 0, 1) := by decide +kernel
theorem d11_11 : decode jdk_38_method_25_code 11 = .ok (.aload_n 1, 1) := by decide +kernel
theorem d11_12 : decode jdk_38_method_25_code 12 = .ok (.aload_n 0, 1) := by decide +kernel
theorem d11_13 : decode jdk_38_method_25_code 13 = .ok (.getfield 9, 3) := by decide +kernel
theorem d11_16 : decode jdk_38_method_25_code 16 = .ok (.aload_n 0, 1) := by decide +kernel
theorem d11_17 : decode jdk_38_method_25_code 17 = .ok (.getfield 48, 3) := by decide +kernel
theorem d11_20 : decode jdk_38_method_25_code 20 = .ok (.invokevirtual 131, 3) := by decide +kernel
theorem pd_8 : parseMethodDescriptor "(Ljava/lang/Object;[Ljava/lang/Object;I)V" = some ⟨[(.object "java/lang/Object"), (.array (.object "java/lang/Object")), .int], none⟩ := by decide +kernel
theorem d11_23 : decode jdk_38_method_25_code 23 = .ok (.iconst 1, 1) := by decide +kernel
theorem d11_24 : decode jdk_38_method_25_code 24 = .ok (.ireturn, 1) := by decide +kernel
set_option maxRecDepth 65536 in
set_option maxHeartbeats 40000000 in
theorem add_0 (l : Launch) (Z : State) (a0 : Array Value) (hw : ∀ d ∈ tables_1, d.before a0 Z = true) (n0 : Nat) (h : Heap) (O : Old Z n0 h) (s_DEF : Addr) (s_EL : Addr) (s_EA : Addr) (s_EM : Addr) (cs : Int32) (mr : Addr) (H : En Z s_DEF s_EL s_EA s_EM cs mr) (a : Addr) (mc : Int32) (x : Addr) (Ex : Exa Z h x "com/example/plumbline/plumbline/Band") (P : AL0 Z n0 h a s_DEF mc) : Con l Z (⟨"java/util/ArrayList", "add", "(Ljava/lang/Object;)Z"⟩ : MethodName) jdk_38_method_25_code 2 (some .boolean) ({ frames := 4, cells := 1, slots := 10, locals := 56 } : Room) #[(.ref a), (.ref x)] h n0 (fun v h' => v = some (.int (1 : Int32)) ∧ Keep h h' [a] ∧ ∃ ed kE, h.size ≤ ed ∧ AL1 Z n0 h' a ed kE (mc + (1 : Int32)) (1 : Int32) [(.ref x), .null, .null, .null, .null, .null, .null, .null, .null, .null]) := by
  refine Con.mk (Ls := #[.val (.ref a), .val (.ref x)]) (plainFor_of_name pn_10) (fun m => by first | (simp [entryFrame, mkF, argsToLocals, Value.category]; done) | rfl) (fun w C => ?_)
  replace C : Cx w l Z "java/util/ArrayList" jdk_38_method_25_code 2 (some .boolean) "add" ({ frames := 4, cells := 1, slots := 10, locals := 56 } : Room) n0 := C
  obtain ⟨S_DEF, E_DEF, V_DEF, S_EL, E_EL, F_EL, V_EA, S_EM, E_EM, S_CS, hcs, MIR⟩ := id H
  obtain ⟨kD, V_DEF⟩ := V_DEF
  obtain ⟨kEA, V_EA⟩ := V_EA
  obtain ⟨ga, E0, F1, F2, F3⟩ := P
  refine g_aloadN C (pc' := 1) d11_0 rfl rfl rfl ?_
  refine g_dup C (pc' := 2) d11_1 rfl rfl rfl ?_
  refine g_getF C (pc' := 5) (wd hw 87 rfl) (Via.of (wd hw 88 rfl)) d11_2 rfl F1 rfl ?_
  refine g_iconst C (pc' := 6) (v := (1 : Int32)) d11_5 (by decide) rfl ?_
  refine g_iadd C (pc' := 7) d11_6 rfl rfl ?_
  refine g_putF C (pc' := 10) (ty := .int) (wd hw 87 rfl) (Via.of (wd hw 88 rfl)) d11_7 rfl F1 E0 (Or.inl (wd hw 74 rfl)) (wd hw 55 rfl) (by decide) rfl rfl ga rfl (fun h217 W218 => ?_)
  have f219 := O.wr W218 ga
  have f220 := (Keep.refl h [a]).wr W218 (Or.inl (List.mem_of_getElem? (i := 0) rfl))
  have f221 := E0.wr W218
  have f222 := F1.same W218
  have f223 := F2.other W218 (Or.inr (slot_ne (Or.inl (wd hw 77 rfl)) (Or.inl (wd hw 74 rfl)) (by decide) (t := (.array (.object "java/lang/Object"))) (t' := .int) (by decide) (by decide)))
  have f224 := F3.other W218 (Or.inr (slot_ne (Or.inl (wd hw 90 rfl)) (Or.inl (wd hw 74 rfl)) (by decide) (t := .int) (t' := .int) (by decide) (by decide)))
  have f225 := (V_DEF.ext O.2).other W218 (O.ne V_DEF.lt ga)
  have f226 := Ex.wr W218
  refine g_aloadN C (pc' := 11) d11_10 rfl rfl rfl ?_
  refine g_aloadN C (pc' := 12) d11_11 rfl rfl rfl ?_
  refine g_aloadN C (pc' := 13) d11_12 rfl rfl rfl ?_
  refine g_getF C (pc' := 16) (wd hw 76 rfl) Via.refl d11_13 rfl f223 rfl ?_
  refine g_aloadN C (pc' := 17) d11_16 rfl rfl rfl ?_
  refine g_getF C (pc' := 20) (wd hw 89 rfl) Via.refl d11_17 rfl f224 rfl ?_
  refine g_private C (pc' := 23) (k' := 1) (n' := 10) (argsL := [(.ref x), (.ref s_DEF), (.int (0 : Int32))]) (rest := []) (wd hw 91 rfl) (wd hw 92 rfl) (wd hw 55 rfl) (wd hw 93 rfl) (wd hw 56 rfl) (wd hw 95 rfl) (by decide) d11_20 pd_8 rfl rfl rfl f221 (add3_0 l Z a0 hw n0 h217 f219 s_DEF s_EL s_EA s_EM cs mr H a (mc + (1 : Int32)) x f226 ⟨ga, f221, f222, f223, f224⟩) (Nat.le_of_ble_eq_true rfl) (Nat.le_of_ble_eq_true rfl) (Nat.le_of_ble_eq_true rfl) (Nat.le_of_ble_eq_true rfl) rfl rfl rfl (fun v228 h227 q229 => ?_)
  obtain ⟨rfl, q1, ed, kE, q2, q3⟩ := q229
  have ne_a_ed : a ≠ ed := Nat.ne_of_lt (Nat.lt_of_lt_of_le f221.lt q2)
  have ne_s_DEF_ed : s_DEF ≠ ed := Nat.ne_of_lt (Nat.lt_of_lt_of_le f225.lt q2)
  have ne_x_ed : x ≠ ed := Nat.ne_of_lt (Nat.lt_of_lt_of_le f226.lt q2)
  have ge_ed : n0 ≤ ed := Nat.le_trans (f219.1 ▸ f219.2.1) q2
  have sz_ed : h.size ≤ ed := Nat.le_trans f220.1 q2
  have f230 := f219.keep q1 (allS ga all0)
  have f231 := f220.trans q1 (allS (Or.inl (List.mem_of_getElem? (i := 0) rfl)) all0)
  have f232 := f221.keep q1
  have f233 := f225.keep q1 (ninS (O.ne V_DEF.lt ga) nin0)
  have f234 := f226.keep q1
  show G w _ h227 1 10 23 #[.val (.ref a), .val (.ref x)] []
  refine g_iconst C (pc' := 24) (v := (1 : Int32)) d11_23 (by decide) rfl ?_
  exact g_zreturn C d11_24 rfl rfl (Nat.le_of_ble_eq_true rfl) (Nat.le_of_ble_eq_true rfl) (⟨rfl, f231, ed, kE, sz_ed, q3⟩)
set_option maxRecDepth 65536 in
set_option maxHeartbeats 40000000 in
theorem add3_1 (l : Launch) (Z : State) (a0 : Array Value) (hw : ∀ d ∈ tables_1, d.before a0 Z = true) (n0 : Nat) (h : Heap) (O : Old Z n0 h) (s_DEF : Addr) (s_EL : Addr) (s_EA : Addr) (s_EM : Addr) (cs : Int32) (mr : Addr) (H : En Z s_DEF s_EL s_EA s_EM cs mr) (a ed : Addr) (kE : ClassId) (mc : Int32) (x0 : Addr) (x : Addr) (Ex : Exa Z h x "com/example/plumbline/plumbline/Band") (P : AL1 Z n0 h a ed kE mc (1 : Int32) [(.ref x0), .null, .null, .null, .null, .null, .null, .null, .null, .null]) : Con l Z (⟨"java/util/ArrayList", "add", "(Ljava/lang/Object;[Ljava/lang/Object;I)V"⟩ : MethodName) jdk_38_method_24_code 4 none ({ frames := 0, cells := 0, slots := 0, locals := 0 } : Room) #[(.ref a), (.ref x), (.ref ed), (.int (1 : Int32))] h n0 (fun v h' => v = none ∧ Keep h h' [a, ed] ∧ AL1 Z n0 h' a ed kE mc (2 : Int32) [(.ref x0), (.ref x), .null, .null, .null, .null, .null, .null, .null, .null]) := by
  refine Con.mk (Ls := #[.val (.ref a), .val (.ref x), .val (.ref ed), .val (.int (1 : Int32))]) (plainFor_of_name pn_10) (fun m => by first | (simp [entryFrame, mkF, argsToLocals, Value.category]; done) | rfl) (fun w C => ?_)
  replace C : Cx w l Z "java/util/ArrayList" jdk_38_method_24_code 4 none "add" ({ frames := 0, cells := 0, slots := 0, locals := 0 } : Room) n0 := C
  obtain ⟨S_DEF, E_DEF, V_DEF, S_EL, E_EL, F_EL, V_EA, S_EM, E_EM, S_CS, hcs, MIR⟩ := id H
  obtain ⟨kD, V_DEF⟩ := V_DEF
  obtain ⟨kEA, V_EA⟩ := V_EA
  obtain ⟨ga, ge, nae, Ov, E0, Ee, F1, F2, F3, A1⟩ := P
  refine g_iloadN C (pc' := 1) d12_0 rfl rfl ?_
  refine g_aloadN C (pc' := 2) d12_1 rfl rfl rfl ?_
  refine g_alen C (pc' := 3) d12_2 rfl A1 rfl ?_
  refine g_icY C (pc' := 11) d12_3 rfl (by decide) (by decide) rfl ?_
  refine g_aloadN C (pc' := 12) d12_11 rfl rfl rfl ?_
  refine g_iloadN C (pc' := 13) d12_12 rfl rfl ?_
  refine g_aloadN C (pc' := 14) d12_13 rfl rfl rfl ?_
  refine g_aastore C (pc' := 15) d12_14 rfl A1 rfl (stoR A1 Ov (Ins.of_exa Ex (wd hw 112 rfl))) (by decide) (by decide) ge rfl (fun h235 W236 => ?_)
  have f237 := O.wr W236 ge
  have f238 := (Keep.refl h [a, ed]).wr W236 (Or.inl (List.mem_of_getElem? (i := 1) rfl))
  have f239 := E0.wr W236
  have f240 := F1.other W236 (Or.inl nae)
  have f241 := F2.other W236 (Or.inl nae)
  have f242 := F3.other W236 (Or.inl nae)
  have f243 := Ee.wr W236
  have f244 := (arv_put A1 rfl W236 (i := 1) rfl (Nat.le_of_ble_eq_true rfl) : Arv Z h235 ed kE (.object "java/lang/Object") (10 : Int32) [(.ref x0), (.ref x), .null, .null, .null, .null, .null, .null, .null, .null] .null)
  have f245 := Ex.wr W236
  refine g_aloadN C (pc' := 16) d12_15 rfl rfl rfl ?_
  refine g_iloadN C (pc' := 17) d12_16 rfl rfl ?_
  refine g_iconst C (pc' := 18) (v := (1 : Int32)) d12_17 (by decide) rfl ?_
  refine g_iadd C (pc' := 19) d12_18 rfl rfl ?_
  rw [show ((1 : Int32) + (1 : Int32)) = (2 : Int32) from by decide]
  refine g_putF C (pc' := 22) (ty := .int) (wd hw 89 rfl) Via.refl d12_19 rfl f242 f239 (Or.inl (wd hw 90 rfl)) (wd hw 55 rfl) (by decide) rfl rfl ga rfl (fun h246 W247 => ?_)
  have f248 := f237.wr W247 ga
  have f249 := f238.wr W247 (Or.inl (List.mem_of_getElem? (i := 0) rfl))
  have f250 := f239.wr W247
  have f251 := f240.other W247 (Or.inr (slot_ne (Or.inl (wd hw 74 rfl)) (Or.inl (wd hw 90 rfl)) (by decide) (t := .int) (t' := .int) (by decide) (by decide)))
  have f252 := f241.other W247 (Or.inr (slot_ne (Or.inl (wd hw 77 rfl)) (Or.inl (wd hw 90 rfl)) (by decide) (t := (.array (.object "java/lang/Object"))) (t' := .int) (by decide) (by decide)))
  have f253 := f242.same W247
  have f254 := f243.wr W247
  have f255 := f244.other W247 (Ne.symm nae)
  have f256 := f245.wr W247
  exact g_return C d12_22 rfl (Nat.le_of_ble_eq_true rfl) (Nat.le_of_ble_eq_true rfl) (⟨rfl, f249, ga, ge, nae, Ov, f250, f254, f251, f252, f253, f255⟩)
set_option maxRecDepth 65536 in
set_option maxHeartbeats 40000000 in
theorem add_1 (l : Launch) (Z : State) (a0 : Array Value) (hw : ∀ d ∈ tables_1, d.before a0 Z = true) (n0 : Nat) (h : Heap) (O : Old Z n0 h) (s_DEF : Addr) (s_EL : Addr) (s_EA : Addr) (s_EM : Addr) (cs : Int32) (mr : Addr) (H : En Z s_DEF s_EL s_EA s_EM cs mr) (a ed : Addr) (kE : ClassId) (mc : Int32) (x0 : Addr) (x : Addr) (Ex : Exa Z h x "com/example/plumbline/plumbline/Band") (P : AL1 Z n0 h a ed kE mc (1 : Int32) [(.ref x0), .null, .null, .null, .null, .null, .null, .null, .null, .null]) : Con l Z (⟨"java/util/ArrayList", "add", "(Ljava/lang/Object;)Z"⟩ : MethodName) jdk_38_method_25_code 2 (some .boolean) ({ frames := 1, cells := 0, slots := 0, locals := 15 } : Room) #[(.ref a), (.ref x)] h n0 (fun v h' => v = some (.int (1 : Int32)) ∧ Keep h h' [a, ed] ∧ AL1 Z n0 h' a ed kE (mc + (1 : Int32)) (2 : Int32) [(.ref x0), (.ref x), .null, .null, .null, .null, .null, .null, .null, .null]) := by
  refine Con.mk (Ls := #[.val (.ref a), .val (.ref x)]) (plainFor_of_name pn_10) (fun m => by first | (simp [entryFrame, mkF, argsToLocals, Value.category]; done) | rfl) (fun w C => ?_)
  replace C : Cx w l Z "java/util/ArrayList" jdk_38_method_25_code 2 (some .boolean) "add" ({ frames := 1, cells := 0, slots := 0, locals := 15 } : Room) n0 := C
  obtain ⟨S_DEF, E_DEF, V_DEF, S_EL, E_EL, F_EL, V_EA, S_EM, E_EM, S_CS, hcs, MIR⟩ := id H
  obtain ⟨kD, V_DEF⟩ := V_DEF
  obtain ⟨kEA, V_EA⟩ := V_EA
  obtain ⟨ga, ge, nae, Ov, E0, Ee, F1, F2, F3, A1⟩ := P
  refine g_aloadN C (pc' := 1) d11_0 rfl rfl rfl ?_
  refine g_dup C (pc' := 2) d11_1 rfl rfl rfl ?_
  refine g_getF C (pc' := 5) (wd hw 87 rfl) (Via.of (wd hw 88 rfl)) d11_2 rfl F1 rfl ?_
  refine g_iconst C (pc' := 6) (v := (1 : Int32)) d11_5 (by decide) rfl ?_
  refine g_iadd C (pc' := 7) d11_6 rfl rfl ?_
  refine g_putF C (pc' := 10) (ty := .int) (wd hw 87 rfl) (Via.of (wd hw 88 rfl)) d11_7 rfl F1 E0 (Or.inl (wd hw 74 rfl)) (wd hw 55 rfl) (by decide) rfl rfl ga rfl (fun h257 W258 => ?_)
  have f259 := O.wr W258 ga
  have f260 := (Keep.refl h [a, ed]).wr W258 (Or.inl (List.mem_of_getElem? (i := 0) rfl))
  have f261 := E0.wr W258
  have f262 := F1.same W258
  have f263 := F2.other W258 (Or.inr (slot_ne (Or.inl (wd hw 77 rfl)) (Or.inl (wd hw 74 rfl)) (by decide) (t := (.array (.object "java/lang/Object"))) (t' := .int) (by decide) (by decide)))
  have f264 := F3.other W258 (Or.inr (slot_ne (Or.inl (wd hw 90 rfl)) (Or.inl (wd hw 74 rfl)) (by decide) (t := .int) (t' := .int) (by decide) (by decide)))
  have f265 := Ee.wr W258
  have f266 := A1.other W258 (Ne.symm nae)
  have f267 := Ex.wr W258
  refine g_aloadN C (pc' := 11) d11_10 rfl rfl rfl ?_
  refine g_aloadN C (pc' := 12) d11_11 rfl rfl rfl ?_
  refine g_aloadN C (pc' := 13) d11_12 rfl rfl rfl ?_
  refine g_getF C (pc' := 16) (wd hw 76 rfl) Via.refl d11_13 rfl f263 rfl ?_
  refine g_aloadN C (pc' := 17) d11_16 rfl rfl rfl ?_
  refine g_getF C (pc' := 20) (wd hw 89 rfl) Via.refl d11_17 rfl f264 rfl ?_
  refine g_private C (pc' := 23) (k' := 0) (n' := 0) (argsL := [(.ref x), (.ref ed), (.int (1 : Int32))]) (rest := []) (wd hw 91 rfl) (wd hw 92 rfl) (wd hw 55 rfl) (wd hw 93 rfl) (wd hw 56 rfl) (wd hw 95 rfl) (by decide) d11_20 pd_8 rfl rfl rfl f261 (add3_1 l Z a0 hw n0 h257 f259 s_DEF s_EL s_EA s_EM cs mr H a ed kE (mc + (1 : Int32)) x0 x f267 ⟨ga, ge, nae, Ov, f261, f265, f262, f263, f264, f266⟩) (Nat.le_of_ble_eq_true rfl) (Nat.le_of_ble_eq_true rfl) (Nat.le_of_ble_eq_true rfl) (Nat.le_of_ble_eq_true rfl) rfl rfl rfl (fun v269 h268 q270 => ?_)
  obtain ⟨rfl, q1, q3⟩ := q270
  have f271 := f259.keep q1 (allS ga (allS ge all0))
  have f272 := f260.trans q1 (allS (Or.inl (List.mem_of_getElem? (i := 0) rfl)) (allS (Or.inl (List.mem_of_getElem? (i := 1) rfl)) all0))
  have f273 := f261.keep q1
  have f274 := f265.keep q1
  have f275 := f267.keep q1
  show G w _ h268 0 0 23 #[.val (.ref a), .val (.ref x)] []
  refine g_iconst C (pc' := 24) (v := (1 : Int32)) d11_23 (by decide) rfl ?_
  exact g_zreturn C d11_24 rfl rfl (Nat.le_of_ble_eq_true rfl) (Nat.le_of_ble_eq_true rfl) (⟨rfl, f272, q3⟩)
set_option maxRecDepth 65536 in
set_option maxHeartbeats 40000000 in
theorem add3_2 (l : Launch) (Z : State) (a0 : Array Value) (hw : ∀ d ∈ tables_1, d.before a0 Z = true) (n0 : Nat) (h : Heap) (O : Old Z n0 h) (s_DEF : Addr) (s_EL : Addr) (s_EA : Addr) (s_EM : Addr) (cs : Int32) (mr : Addr) (H : En Z s_DEF s_EL s_EA s_EM cs mr) (a ed : Addr) (kE : ClassId) (mc : Int32) (x0 x1 : Addr) (x : Addr) (Ex : Exa Z h x "com/example/plumbline/plumbline/Band") (P : AL1 Z n0 h a ed kE mc (2 : Int32) [(.ref x0), (.ref x1), .null, .null, .null, .null, .null, .null, .null, .null]) : Con l Z (⟨"java/util/ArrayList", "add", "(Ljava/lang/Object;[Ljava/lang/Object;I)V"⟩ : MethodName) jdk_38_method_24_code 4 none ({ frames := 0, cells := 0, slots := 0, locals := 0 } : Room) #[(.ref a), (.ref x), (.ref ed), (.int (2 : Int32))] h n0 (fun v h' => v = none ∧ Keep h h' [a, ed] ∧ AL1 Z n0 h' a ed kE mc (3 : Int32) [(.ref x0), (.ref x1), (.ref x), .null, .null, .null, .null, .null, .null, .null]) := by
  refine Con.mk (Ls := #[.val (.ref a), .val (.ref x), .val (.ref ed), .val (.int (2 : Int32))]) (plainFor_of_name pn_10) (fun m => by first | (simp [entryFrame, mkF, argsToLocals, Value.category]; done) | rfl) (fun w C => ?_)
  replace C : Cx w l Z "java/util/ArrayList" jdk_38_method_24_code 4 none "add" ({ frames := 0, cells := 0, slots := 0, locals := 0 } : Room) n0 := C
  obtain ⟨S_DEF, E_DEF, V_DEF, S_EL, E_EL, F_EL, V_EA, S_EM, E_EM, S_CS, hcs, MIR⟩ := id H
  obtain ⟨kD, V_DEF⟩ := V_DEF
  obtain ⟨kEA, V_EA⟩ := V_EA
  obtain ⟨ga, ge, nae, Ov, E0, Ee, F1, F2, F3, A1⟩ := P
  refine g_iloadN C (pc' := 1) d12_0 rfl rfl ?_
  refine g_aloadN C (pc' := 2) d12_1 rfl rfl rfl ?_
  refine g_alen C (pc' := 3) d12_2 rfl A1 rfl ?_
  refine g_icY C (pc' := 11) d12_3 rfl (by decide) (by decide) rfl ?_
  refine g_aloadN C (pc' := 12) d12_11 rfl rfl rfl ?_
  refine g_iloadN C (pc' := 13) d12_12 rfl rfl ?_
  refine g_aloadN C (pc' := 14) d12_13 rfl rfl rfl ?_
  refine g_aastore C (pc' := 15) d12_14 rfl A1 rfl (stoR A1 Ov (Ins.of_exa Ex (wd hw 112 rfl))) (by decide) (by decide) ge rfl (fun h276 W277 => ?_)
  have f278 := O.wr W277 ge
  have f279 := (Keep.refl h [a, ed]).wr W277 (Or.inl (List.mem_of_getElem? (i := 1) rfl))
  have f280 := E0.wr W277
  have f281 := F1.other W277 (Or.inl nae)
  have f282 := F2.other W277 (Or.inl nae)
  have f283 := F3.other W277 (Or.inl nae)
  have f284 := Ee.wr W277
  have f285 := (arv_put A1 rfl W277 (i := 2) rfl (Nat.le_of_ble_eq_true rfl) : Arv Z h276 ed kE (.object "java/lang/Object") (10 : Int32) [(.ref x0), (.ref x1), (.ref x), .null, .null, .null, .null, .null, .null, .null] .null)
  have f286 := Ex.wr W277
  refine g_aloadN C (pc' := 16) d12_15 rfl rfl rfl ?_
  refine g_iloadN C (pc' := 17) d12_16 rfl rfl ?_
  refine g_iconst C (pc' := 18) (v := (1 : Int32)) d12_17 (by decide) rfl ?_
  refine g_iadd C (pc' := 19) d12_18 rfl rfl ?_
  rw [show ((2 : Int32) + (1 : Int32)) = (3 : Int32) from by decide]
  refine g_putF C (pc' := 22) (ty := .int) (wd hw 89 rfl) Via.refl d12_19 rfl f283 f280 (Or.inl (wd hw 90 rfl)) (wd hw 55 rfl) (by decide) rfl rfl ga rfl (fun h287 W288 => ?_)
  have f289 := f278.wr W288 ga
  have f290 := f279.wr W288 (Or.inl (List.mem_of_getElem? (i := 0) rfl))
  have f291 := f280.wr W288
  have f292 := f281.other W288 (Or.inr (slot_ne (Or.inl (wd hw 74 rfl)) (Or.inl (wd hw 90 rfl)) (by decide) (t := .int) (t' := .int) (by decide) (by decide)))
  have f293 := f282.other W288 (Or.inr (slot_ne (Or.inl (wd hw 77 rfl)) (Or.inl (wd hw 90 rfl)) (by decide) (t := (.array (.object "java/lang/Object"))) (t' := .int) (by decide) (by decide)))
  have f294 := f283.same W288
  have f295 := f284.wr W288
  have f296 := f285.other W288 (Ne.symm nae)
  have f297 := f286.wr W288
  exact g_return C d12_22 rfl (Nat.le_of_ble_eq_true rfl) (Nat.le_of_ble_eq_true rfl) (⟨rfl, f290, ga, ge, nae, Ov, f291, f295, f292, f293, f294, f296⟩)
set_option maxRecDepth 65536 in
set_option maxHeartbeats 40000000 in
theorem add_2 (l : Launch) (Z : State) (a0 : Array Value) (hw : ∀ d ∈ tables_1, d.before a0 Z = true) (n0 : Nat) (h : Heap) (O : Old Z n0 h) (s_DEF : Addr) (s_EL : Addr) (s_EA : Addr) (s_EM : Addr) (cs : Int32) (mr : Addr) (H : En Z s_DEF s_EL s_EA s_EM cs mr) (a ed : Addr) (kE : ClassId) (mc : Int32) (x0 x1 : Addr) (x : Addr) (Ex : Exa Z h x "com/example/plumbline/plumbline/Band") (P : AL1 Z n0 h a ed kE mc (2 : Int32) [(.ref x0), (.ref x1), .null, .null, .null, .null, .null, .null, .null, .null]) : Con l Z (⟨"java/util/ArrayList", "add", "(Ljava/lang/Object;)Z"⟩ : MethodName) jdk_38_method_25_code 2 (some .boolean) ({ frames := 1, cells := 0, slots := 0, locals := 15 } : Room) #[(.ref a), (.ref x)] h n0 (fun v h' => v = some (.int (1 : Int32)) ∧ Keep h h' [a, ed] ∧ AL1 Z n0 h' a ed kE (mc + (1 : Int32)) (3 : Int32) [(.ref x0), (.ref x1), (.ref x), .null, .null, .null, .null, .null, .null, .null]) := by
  refine Con.mk (Ls := #[.val (.ref a), .val (.ref x)]) (plainFor_of_name pn_10) (fun m => by first | (simp [entryFrame, mkF, argsToLocals, Value.category]; done) | rfl) (fun w C => ?_)
  replace C : Cx w l Z "java/util/ArrayList" jdk_38_method_25_code 2 (some .boolean) "add" ({ frames := 1, cells := 0, slots := 0, locals := 15 } : Room) n0 := C
  obtain ⟨S_DEF, E_DEF, V_DEF, S_EL, E_EL, F_EL, V_EA, S_EM, E_EM, S_CS, hcs, MIR⟩ := id H
  obtain ⟨kD, V_DEF⟩ := V_DEF
  obtain ⟨kEA, V_EA⟩ := V_EA
  obtain ⟨ga, ge, nae, Ov, E0, Ee, F1, F2, F3, A1⟩ := P
  refine g_aloadN C (pc' := 1) d11_0 rfl rfl rfl ?_
  refine g_dup C (pc' := 2) d11_1 rfl rfl rfl ?_
  refine g_getF C (pc' := 5) (wd hw 87 rfl) (Via.of (wd hw 88 rfl)) d11_2 rfl F1 rfl ?_
  refine g_iconst C (pc' := 6) (v := (1 : Int32)) d11_5 (by decide) rfl ?_
  refine g_iadd C (pc' := 7) d11_6 rfl rfl ?_
  refine g_putF C (pc' := 10) (ty := .int) (wd hw 87 rfl) (Via.of (wd hw 88 rfl)) d11_7 rfl F1 E0 (Or.inl (wd hw 74 rfl)) (wd hw 55 rfl) (by decide) rfl rfl ga rfl (fun h298 W299 => ?_)
  have f300 := O.wr W299 ga
  have f301 := (Keep.refl h [a, ed]).wr W299 (Or.inl (List.mem_of_getElem? (i := 0) rfl))
  have f302 := E0.wr W299
  have f303 := F1.same W299
  have f304 := F2.other W299 (Or.inr (slot_ne (Or.inl (wd hw 77 rfl)) (Or.inl (wd hw 74 rfl)) (by decide) (t := (.array (.object "java/lang/Object"))) (t' := .int) (by decide) (by decide)))
  have f305 := F3.other W299 (Or.inr (slot_ne (Or.inl (wd hw 90 rfl)) (Or.inl (wd hw 74 rfl)) (by decide) (t := .int) (t' := .int) (by decide) (by decide)))
  have f306 := Ee.wr W299
  have f307 := A1.other W299 (Ne.symm nae)
  have f308 := Ex.wr W299
  refine g_aloadN C (pc' := 11) d11_10 rfl rfl rfl ?_
  refine g_aloadN C (pc' := 12) d11_11 rfl rfl rfl ?_
  refine g_aloadN C (pc' := 13) d11_12 rfl rfl rfl ?_
  refine g_getF C (pc' := 16) (wd hw 76 rfl) Via.refl d11_13 rfl f304 rfl ?_
  refine g_aloadN C (pc' := 17) d11_16 rfl rfl rfl ?_
  refine g_getF C (pc' := 20) (wd hw 89 rfl) Via.refl d11_17 rfl f305 rfl ?_
  refine g_private C (pc' := 23) (k' := 0) (n' := 0) (argsL := [(.ref x), (.ref ed), (.int (2 : Int32))]) (rest := []) (wd hw 91 rfl) (wd hw 92 rfl) (wd hw 55 rfl) (wd hw 93 rfl) (wd hw 56 rfl) (wd hw 95 rfl) (by decide) d11_20 pd_8 rfl rfl rfl f302 (add3_2 l Z a0 hw n0 h298 f300 s_DEF s_EL s_EA s_EM cs mr H a ed kE (mc + (1 : Int32)) x0 x1 x f308 ⟨ga, ge, nae, Ov, f302, f306, f303, f304, f305, f307⟩) (Nat.le_of_ble_eq_true rfl) (Nat.le_of_ble_eq_true rfl) (Nat.le_of_ble_eq_true rfl) (Nat.le_of_ble_eq_true rfl) rfl rfl rfl (fun v310 h309 q311 => ?_)
  obtain ⟨rfl, q1, q3⟩ := q311
  have f312 := f300.keep q1 (allS ga (allS ge all0))
  have f313 := f301.trans q1 (allS (Or.inl (List.mem_of_getElem? (i := 0) rfl)) (allS (Or.inl (List.mem_of_getElem? (i := 1) rfl)) all0))
  have f314 := f302.keep q1
  have f315 := f306.keep q1
  have f316 := f308.keep q1
  show G w _ h309 0 0 23 #[.val (.ref a), .val (.ref x)] []
  refine g_iconst C (pc' := 24) (v := (1 : Int32)) d11_23 (by decide) rfl ?_
  exact g_zreturn C d11_24 rfl rfl (Nat.le_of_ble_eq_true rfl) (Nat.le_of_ble_eq_true rfl) (⟨rfl, f313, q3⟩)
theorem d27_0 : decode jdk_31_method_10_code 0 = .ok (.aload_n 0, 1) := by decide +kernel
theorem d27_1 : decode jdk_31_method_10_code 1 = .ok (.ifnonnull 11, 3) := by decide +kernel
theorem d27_12 : decode jdk_31_method_10_code 12 = .ok (.aload_n 0, 1) := by decide +kernel
theorem d27_13 : decode jdk_31_method_10_code 13 = .ok (.areturn, 1) := by decide +kernel
theorem pn_18 : plainName "java/util/Objects" = true := by first | (simp [plainName, overriddenIn]; done) | decide +kernel
set_option maxRecDepth 65536 in
set_option maxHeartbeats 40000000 in
theorem rnn (l : Launch) (Z : State) (a0 : Array Value) (hw : ∀ d ∈ tables_1, d.before a0 Z = true) (n0 : Nat) (h : Heap) (O : Old Z n0 h) (s_DEF : Addr) (s_EL : Addr) (s_EA : Addr) (s_EM : Addr) (cs : Int32) (mr : Addr) (H : En Z s_DEF s_EL s_EA s_EM cs mr) (x : Addr) : Con l Z (⟨"java/util/Objects", "requireNonNull", "(Ljava/lang/Object;)Ljava/lang/Object;"⟩ : MethodName) jdk_31_method_10_code 1 (some (.object "java/lang/Object")) ({ frames := 0, cells := 0, slots := 0, locals := 0 } : Room) #[(.ref x)] h n0 (fun v h' => v = some (.ref x) ∧ h' = h) := by
  refine Con.mk (Ls := #[.val (.ref x)]) (plainFor_of_name pn_18) (fun m => by first | (simp [entryFrame, mkF, argsToLocals, Value.category]; done) | rfl) (fun w C => ?_)
  replace C : Cx w l Z "java/util/Objects" jdk_31_method_10_code 1 (some (.object "java/lang/Object")) "requireNonNull" ({ frames := 0, cells := 0, slots := 0, locals := 0 } : Room) n0 := C
  obtain ⟨S_DEF, E_DEF, V_DEF, S_EL, E_EL, F_EL, V_EA, S_EM, E_EM, S_CS, hcs, MIR⟩ := id H
  obtain ⟨kD, V_DEF⟩ := V_DEF
  obtain ⟨kEA, V_EA⟩ := V_EA
  refine g_aloadN C (pc' := 1) d27_0 rfl rfl rfl ?_
  refine g_ifnonnullY C (pc' := 12) d27_1 rfl (by decide) rfl ?_
  refine g_aloadN C (pc' := 13) d27_12 rfl rfl rfl ?_
  exact g_areturn C d27_13 rfl rfl rfl rfl (Nat.le_of_ble_eq_true rfl) (Nat.le_of_ble_eq_true rfl) (⟨rfl, rfl⟩)
theorem d19_0 : decode jdk_38_method_9_code 0 = .ok (.aload_n 0, 1) := by decide +kernel
theorem d19_1 : decode jdk_38_method_9_code 1 = .ok (.getfield 48, 3) := by decide +kernel
theorem d19_4 : decode jdk_38_method_9_code 4 = .ok (.ifCond .ne 7, 3) := by decide +kernel
theorem d19_7 : decode jdk_38_method_9_code 7 = .ok (.iconst 1, 1) := by decide +kernel
theorem d19_8 : decode jdk_38_method_9_code 8 = .ok (.goto 4, 3) := by decide +kernel
theorem d19_12 : decode jdk_38_method_9_code 12 = .ok (.ireturn, 1) := by decide +kernel
set_option maxRecDepth 65536 in
set_option maxHeartbeats 40000000 in
theorem alEmp_0 (l : Launch) (Z : State) (a0 : Array Value) (hw : ∀ d ∈ tables_1, d.before a0 Z = true) (n0 : Nat) (h : Heap) (O : Old Z n0 h) (s_DEF : Addr) (s_EL : Addr) (s_EA : Addr) (s_EM : Addr) (cs : Int32) (mr : Addr) (H : En Z s_DEF s_EL s_EA s_EM cs mr) (a : Addr) (mc : Int32) (P : AL0 Z n0 h a s_DEF mc) : Con l Z (⟨"java/util/ArrayList", "isEmpty", "()Z"⟩ : MethodName) jdk_38_method_9_code 1 (some .boolean) ({ frames := 0, cells := 0, slots := 0, locals := 0 } : Room) #[(.ref a)] h n0 (fun v h' => v = some (.int (1 : Int32)) ∧ h' = h) := by
  refine Con.mk (Ls := #[.val (.ref a)]) (plainFor_of_name pn_10) (fun m => by first | (simp [entryFrame, mkF, argsToLocals, Value.category]; done) | rfl) (fun w C => ?_)
  replace C : Cx w l Z "java/util/ArrayList" jdk_38_method_9_code 1 (some .boolean) "isEmpty" ({ frames := 0, cells := 0, slots := 0, locals := 0 } : Room) n0 := C
  obtain ⟨S_DEF, E_DEF, V_DEF, S_EL, E_EL, F_EL, V_EA, S_EM, E_EM, S_CS, hcs, MIR⟩ := id H
  obtain ⟨kD, V_DEF⟩ := V_DEF
  obtain ⟨kEA, V_EA⟩ := V_EA
  obtain ⟨ga, E0, F1, F2, F3⟩ := P
  refine g_aloadN C (pc' := 1) d19_0 rfl rfl rfl ?_
  refine g_getF C (pc' := 4) (wd hw 89 rfl) Via.refl d19_1 rfl F3 rfl ?_
  refine g_ifN C (pc' := 7) d19_4 rfl (by decide) rfl ?_
  refine g_iconst C (pc' := 8) (v := (1 : Int32)) d19_7 (by decide) rfl ?_
  refine g_goto C (pc' := 12) d19_8 (by decide) rfl ?_
  exact g_zreturn C d19_12 rfl rfl (Nat.le_of_ble_eq_true rfl) (Nat.le_of_ble_eq_true rfl) (⟨rfl, rfl⟩)
theorem d19_11 : decode jdk_38_method_9_code 11 = .ok (.iconst 0, 1) := by decide +kernel
set_option maxRecDepth 65536 in
set_option maxHeartbeats 40000000 in
theorem alEmp_1 (l : Launch) (Z : State) (a0 : Array Value) (hw : ∀ d ∈ tables_1, d.before a0 Z = true) (n0 : Nat) (h : Heap) (O : Old Z n0 h) (s_DEF : Addr) (s_EL : Addr) (s_EA : Addr) (s_EM : Addr) (cs : Int32) (mr : Addr) (H : En Z s_DEF s_EL s_EA s_EM cs mr) (a ed : Addr) (kE : ClassId) (mc : Int32) (x0 : Addr) (P : AL1 Z n0 h a ed kE mc (1 : Int32) [(.ref x0), .null, .null, .null, .null, .null, .null, .null, .null, .null]) : Con l Z (⟨"java/util/ArrayList", "isEmpty", "()Z"⟩ : MethodName) jdk_38_method_9_code 1 (some .boolean) ({ frames := 0, cells := 0, slots := 0, locals := 0 } : Room) #[(.ref a)] h n0 (fun v h' => v = some (.int (0 : Int32)) ∧ h' = h) := by
  refine Con.mk (Ls := #[.val (.ref a)]) (plainFor_of_name pn_10) (fun m => by first | (simp [entryFrame, mkF, argsToLocals, Value.category]; done) | rfl) (fun w C => ?_)
  replace C : Cx w l Z "java/util/ArrayList" jdk_38_method_9_code 1 (some .boolean) "isEmpty" ({ frames := 0, cells := 0, slots := 0, locals := 0 } : Room) n0 := C
  obtain ⟨S_DEF, E_DEF, V_DEF, S_EL, E_EL, F_EL, V_EA, S_EM, E_EM, S_CS, hcs, MIR⟩ := id H
  obtain ⟨kD, V_DEF⟩ := V_DEF
  obtain ⟨kEA, V_EA⟩ := V_EA
  obtain ⟨ga, ge, nae, Ov, E0, Ee, F1, F2, F3, A1⟩ := P
  refine g_aloadN C (pc' := 1) d19_0 rfl rfl rfl ?_
  refine g_getF C (pc' := 4) (wd hw 89 rfl) Via.refl d19_1 rfl F3 rfl ?_
  refine g_ifY C (pc' := 11) d19_4 rfl (by decide) (by decide) rfl ?_
  refine g_iconst C (pc' := 12) (v := (0 : Int32)) d19_11 (by decide) rfl ?_
  exact g_zreturn C d19_12 rfl rfl (Nat.le_of_ble_eq_true rfl) (Nat.le_of_ble_eq_true rfl) (⟨rfl, rfl⟩)
set_option maxRecDepth 65536 in
set_option maxHeartbeats 40000000 in
theorem alEmp_2 (l : Launch) (Z : State) (a0 : Array Value) (hw : ∀ d ∈ tables_1, d.before a0 Z = true) (n0 : Nat) (h : Heap) (O : Old Z n0 h) (s_DEF : Addr) (s_EL : Addr) (s_EA : Addr) (s_EM : Addr) (cs : Int32) (mr : Addr) (H : En Z s_DEF s_EL s_EA s_EM cs mr) (a ed : Addr) (kE : ClassId) (mc : Int32) (x0 x1 : Addr) (P : AL1 Z n0 h a ed kE mc (2 : Int32) [(.ref x0), (.ref x1), .null, .null, .null, .null, .null, .null, .null, .null]) : Con l Z (⟨"java/util/ArrayList", "isEmpty", "()Z"⟩ : MethodName) jdk_38_method_9_code 1 (some .boolean) ({ frames := 0, cells := 0, slots := 0, locals := 0 } : Room) #[(.ref a)] h n0 (fun v h' => v = some (.int (0 : Int32)) ∧ h' = h) := by
  refine Con.mk (Ls := #[.val (.ref a)]) (plainFor_of_name pn_10) (fun m => by first | (simp [entryFrame, mkF, argsToLocals, Value.category]; done) | rfl) (fun w C => ?_)
  replace C : Cx w l Z "java/util/ArrayList" jdk_38_method_9_code 1 (some .boolean) "isEmpty" ({ frames := 0, cells := 0, slots := 0, locals := 0 } : Room) n0 := C
  obtain ⟨S_DEF, E_DEF, V_DEF, S_EL, E_EL, F_EL, V_EA, S_EM, E_EM, S_CS, hcs, MIR⟩ := id H
  obtain ⟨kD, V_DEF⟩ := V_DEF
  obtain ⟨kEA, V_EA⟩ := V_EA
  obtain ⟨ga, ge, nae, Ov, E0, Ee, F1, F2, F3, A1⟩ := P
  refine g_aloadN C (pc' := 1) d19_0 rfl rfl rfl ?_
  refine g_getF C (pc' := 4) (wd hw 89 rfl) Via.refl d19_1 rfl F3 rfl ?_
  refine g_ifY C (pc' := 11) d19_4 rfl (by decide) (by decide) rfl ?_
  refine g_iconst C (pc' := 12) (v := (0 : Int32)) d19_11 (by decide) rfl ?_
  exact g_zreturn C d19_12 rfl rfl (Nat.le_of_ble_eq_true rfl) (Nat.le_of_ble_eq_true rfl) (⟨rfl, rfl⟩)
set_option maxRecDepth 65536 in
set_option maxHeartbeats 40000000 in
theorem alEmp_3 (l : Launch) (Z : State) (a0 : Array Value) (hw : ∀ d ∈ tables_1, d.before a0 Z = true) (n0 : Nat) (h : Heap) (O : Old Z n0 h) (s_DEF : Addr) (s_EL : Addr) (s_EA : Addr) (s_EM : Addr) (cs : Int32) (mr : Addr) (H : En Z s_DEF s_EL s_EA s_EM cs mr) (a ed : Addr) (kE : ClassId) (mc : Int32) (x0 x1 x2 : Addr) (P : AL1 Z n0 h a ed kE mc (3 : Int32) [(.ref x0), (.ref x1), (.ref x2), .null, .null, .null, .null, .null, .null, .null]) : Con l Z (⟨"java/util/ArrayList", "isEmpty", "()Z"⟩ : MethodName) jdk_38_method_9_code 1 (some .boolean) ({ frames := 0, cells := 0, slots := 0, locals := 0 } : Room) #[(.ref a)] h n0 (fun v h' => v = some (.int (0 : Int32)) ∧ h' = h) := by
  refine Con.mk (Ls := #[.val (.ref a)]) (plainFor_of_name pn_10) (fun m => by first | (simp [entryFrame, mkF, argsToLocals, Value.category]; done) | rfl) (fun w C => ?_)
  replace C : Cx w l Z "java/util/ArrayList" jdk_38_method_9_code 1 (some .boolean) "isEmpty" ({ frames := 0, cells := 0, slots := 0, locals := 0 } : Room) n0 := C
  obtain ⟨S_DEF, E_DEF, V_DEF, S_EL, E_EL, F_EL, V_EA, S_EM, E_EM, S_CS, hcs, MIR⟩ := id H
  obtain ⟨kD, V_DEF⟩ := V_DEF
  obtain ⟨kEA, V_EA⟩ := V_EA
  obtain ⟨ga, ge, nae, Ov, E0, Ee, F1, F2, F3, A1⟩ := P
  refine g_aloadN C (pc' := 1) d19_0 rfl rfl rfl ?_
  refine g_getF C (pc' := 4) (wd hw 89 rfl) Via.refl d19_1 rfl F3 rfl ?_
  refine g_ifY C (pc' := 11) d19_4 rfl (by decide) (by decide) rfl ?_
  refine g_iconst C (pc' := 12) (v := (0 : Int32)) d19_11 (by decide) rfl ?_
  exact g_zreturn C d19_12 rfl rfl (Nat.le_of_ble_eq_true rfl) (Nat.le_of_ble_eq_true rfl) (⟨rfl, rfl⟩)
theorem d20_0 : decode jdk_40_method_36_code 0 = .ok (.getstatic 90, 3) := by decide +kernel
theorem d20_3 : decode jdk_40_method_36_code 3 = .ok (.areturn, 1) := by decide +kernel
theorem pn_17 : plainName "java/util/List" = true := by first | (simp [plainName, overriddenIn]; done) | decide +kernel
set_option maxRecDepth 65536 in
set_option maxHeartbeats 40000000 in
theorem lof (l : Launch) (Z : State) (a0 : Array Value) (hw : ∀ d ∈ tables_1, d.before a0 Z = true) (n0 : Nat) (h : Heap) (O : Old Z n0 h) (s_DEF : Addr) (s_EL : Addr) (s_EA : Addr) (s_EM : Addr) (cs : Int32) (mr : Addr) (H : En Z s_DEF s_EL s_EA s_EM cs mr) : Con l Z (⟨"java/util/List", "of", "()Ljava/util/List;"⟩ : MethodName) jdk_40_method_36_code 0 (some (.object "java/util/List")) ({ frames := 0, cells := 0, slots := 0, locals := 0 } : Room) #[] h n0 (fun v h' => v = some (.ref s_EL) ∧ h' = h) := by
  refine Con.mk (Ls := #[]) (plainFor_of_name pn_17) (fun m => by first | (simp [entryFrame, mkF, argsToLocals, Value.category]; done) | rfl) (fun w C => ?_)
  replace C : Cx w l Z "java/util/List" jdk_40_method_36_code 0 (some (.object "java/util/List")) "of" ({ frames := 0, cells := 0, slots := 0, locals := 0 } : Room) n0 := C
  obtain ⟨S_DEF, E_DEF, V_DEF, S_EL, E_EL, F_EL, V_EA, S_EM, E_EM, S_CS, hcs, MIR⟩ := id H
  obtain ⟨kD, V_DEF⟩ := V_DEF
  obtain ⟨kEA, V_EA⟩ := V_EA
  refine g_getS C (pc' := 3) (wd hw 146 rfl) Via.refl d20_0 (S_EL.ext O.2) rfl ?_
  exact g_areturn C d20_3 rfl rfl rfl rfl (Nat.le_of_ble_eq_true rfl) (Nat.le_of_ble_eq_true rfl) (⟨rfl, rfl⟩)
set_option maxRecDepth 65536 in
set_option maxHeartbeats 40000000 in
theorem i12_2 (l : Launch) (Z : State) (a0 : Array Value) (hw : ∀ d ∈ tables_1, d.before a0 Z = true) (n0 : Nat) (h : Heap) (O : Old Z n0 h) (s_DEF : Addr) (s_EL : Addr) (s_EA : Addr) (s_EM : Addr) (cs : Int32) (mr : Addr) (H : En Z s_DEF s_EL s_EA s_EM cs mr) (a : Addr) (E0 : Exa Z h a "java/util/ImmutableCollections$List12") : Con l Z (⟨"java/util/AbstractCollection", "<init>", "()V"⟩ : MethodName) jdk_22_method_1_code 1 none ({ frames := 1, cells := 0, slots := 0, locals := 12 } : Room) #[(.ref a)] h n0 (fun v h' => v = none ∧ h' = h) := by
  refine Con.mk (Ls := #[.val (.ref a)]) (plainFor_of_name pn_8) (fun m => by first | (simp [entryFrame, mkF, argsToLocals, Value.category]; done) | rfl) (fun w C => ?_)
  replace C : Cx w l Z "java/util/AbstractCollection" jdk_22_method_1_code 1 none "<init>" ({ frames := 1, cells := 0, slots := 0, locals := 12 } : Room) n0 := C
  obtain ⟨S_DEF, E_DEF, V_DEF, S_EL, E_EL, F_EL, V_EA, S_EM, E_EM, S_CS, hcs, MIR⟩ := id H
  obtain ⟨kD, V_DEF⟩ := V_DEF
  obtain ⟨kEA, V_EA⟩ := V_EA
  refine g_aloadN C (pc' := 1) d10_0 rfl rfl rfl ?_
  refine g_initO C (pc' := 4) (wd hw 72 rfl) (wd hw 26 rfl) (wd hw 27 rfl) d10_1 rfl rfl (Nat.le_of_ble_eq_true rfl) (Nat.le_of_ble_eq_true rfl) rfl ?_
  exact g_return C d10_4 rfl (Nat.le_of_ble_eq_true rfl) (Nat.le_of_ble_eq_true rfl) (⟨rfl, rfl⟩)
theorem d30_0 : decode jdk_47_method_1_code 0 = .ok (.aload_n 0, 1) := by decide +kernel
theorem d30_1 : decode jdk_47_method_1_code 1 = .ok (.invokespecial 1, 3) := by decide +kernel
theorem d30_4 : decode jdk_47_method_1_code 4 = .ok (.return_, 1) := by decide +kernel
theorem pn_13 : plainName "java/util/ImmutableCollections$AbstractImmutableCollection" = true := by first | (simp [plainName, overriddenIn]; done) | decide +kernel
set_option maxRecDepth 65536 in
set_option maxHeartbeats 40000000 in
theorem i12_1 (l : Launch) (Z : State) (a0 : Array Value) (hw : ∀ d ∈ tables_1, d.before a0 Z = true) (n0 : Nat) (h : Heap) (O : Old Z n0 h) (s_DEF : Addr) (s_EL : Addr) (s_EA : Addr) (s_EM : Addr) (cs : Int32) (mr : Addr) (H : En Z s_DEF s_EL s_EA s_EM cs mr) (a : Addr) (E0 : Exa Z h a "java/util/ImmutableCollections$List12") : Con l Z (⟨"java/util/ImmutableCollections$AbstractImmutableCollection", "<init>", "()V"⟩ : MethodName) jdk_47_method_1_code 1 none ({ frames := 2, cells := 0, slots := 0, locals := 24 } : Room) #[(.ref a)] h n0 (fun v h' => v = none ∧ h' = h) := by
  refine Con.mk (Ls := #[.val (.ref a)]) (plainFor_of_name pn_13) (fun m => by first | (simp [entryFrame, mkF, argsToLocals, Value.category]; done) | rfl) (fun w C => ?_)
  replace C : Cx w l Z "java/util/ImmutableCollections$AbstractImmutableCollection" jdk_47_method_1_code 1 none "<init>" ({ frames := 2, cells := 0, slots := 0, locals := 24 } : Room) n0 := C
  obtain ⟨S_DEF, E_DEF, V_DEF, S_EL, E_EL, F_EL, V_EA, S_EM, E_EM, S_CS, hcs, MIR⟩ := id H
  obtain ⟨kD, V_DEF⟩ := V_DEF
  obtain ⟨kEA, V_EA⟩ := V_EA
  refine g_aloadN C (pc' := 1) d30_0 rfl rfl rfl ?_
  refine g_special C (pc' := 4) (k' := 0) (n' := 0) (argsL := []) (rest := []) (wd hw 208 rfl) (wd hw 67 rfl) (wd hw 70 rfl) (wd hw 71 rfl) (by decide) rfl d30_1 pd_4 rfl rfl rfl (i12_2 l Z a0 hw n0 h O s_DEF s_EL s_EA s_EM cs mr H a E0) (Nat.le_of_ble_eq_true rfl) (Nat.le_of_ble_eq_true rfl) (Nat.le_of_ble_eq_true rfl) (Nat.le_of_ble_eq_true rfl) rfl rfl rfl (fun v318 h317 q319 => ?_)
  obtain ⟨rfl, eh317⟩ := q319
  subst h317
  show G w _ h 0 0 4 #[.val (.ref a)] []
  exact g_return C d30_4 rfl (Nat.le_of_ble_eq_true rfl) (Nat.le_of_ble_eq_true rfl) (⟨rfl, rfl⟩)
theorem d29_0 : decode jdk_46_method_1_code 0 = .ok (.aload_n 0, 1) := by decide +kernel
theorem d29_1 : decode jdk_46_method_1_code 1 = .ok (.invokespecial 1, 3) := by decide +kernel
theorem d29_4 : decode jdk_46_method_1_code 4 = .ok (.return_, 1) := by decide +kernel
theorem pn_14 : plainName "java/util/ImmutableCollections$AbstractImmutableList" = true := by first | (simp [plainName, overriddenIn]; done) | decide +kernel
set_option maxRecDepth 65536 in
set_option maxHeartbeats 40000000 in
theorem i12_0 (l : Launch) (Z : State) (a0 : Array Value) (hw : ∀ d ∈ tables_1, d.before a0 Z = true) (n0 : Nat) (h : Heap) (O : Old Z n0 h) (s_DEF : Addr) (s_EL : Addr) (s_EA : Addr) (s_EM : Addr) (cs : Int32) (mr : Addr) (H : En Z s_DEF s_EL s_EA s_EM cs mr) (a : Addr) (E0 : Exa Z h a "java/util/ImmutableCollections$List12") : Con l Z (⟨"java/util/ImmutableCollections$AbstractImmutableList", "<init>", "()V"⟩ : MethodName) jdk_46_method_1_code 1 none ({ frames := 3, cells := 0, slots := 0, locals := 36 } : Room) #[(.ref a)] h n0 (fun v h' => v = none ∧ h' = h) := by
  refine Con.mk (Ls := #[.val (.ref a)]) (plainFor_of_name pn_14) (fun m => by first | (simp [entryFrame, mkF, argsToLocals, Value.category]; done) | rfl) (fun w C => ?_)
  replace C : Cx w l Z "java/util/ImmutableCollections$AbstractImmutableList" jdk_46_method_1_code 1 none "<init>" ({ frames := 3, cells := 0, slots := 0, locals := 36 } : Room) n0 := C
  obtain ⟨S_DEF, E_DEF, V_DEF, S_EL, E_EL, F_EL, V_EA, S_EM, E_EM, S_CS, hcs, MIR⟩ := id H
  obtain ⟨kD, V_DEF⟩ := V_DEF
  obtain ⟨kEA, V_EA⟩ := V_EA
  refine g_aloadN C (pc' := 1) d29_0 rfl rfl rfl ?_
  refine g_special C (pc' := 4) (k' := 0) (n' := 0) (argsL := []) (rest := []) (wd hw 202 rfl) (wd hw 203 rfl) (wd hw 206 rfl) (wd hw 207 rfl) (by decide) rfl d29_1 pd_4 rfl rfl rfl (i12_1 l Z a0 hw n0 h O s_DEF s_EL s_EA s_EM cs mr H a E0) (Nat.le_of_ble_eq_true rfl) (Nat.le_of_ble_eq_true rfl) (Nat.le_of_ble_eq_true rfl) (Nat.le_of_ble_eq_true rfl) rfl rfl rfl (fun v321 h320 q322 => ?_)
  obtain ⟨rfl, eh320⟩ := q322
  subst h320
  show G w _ h 0 0 4 #[.val (.ref a)] []
  exact g_return C d29_4 rfl (Nat.le_of_ble_eq_true rfl) (Nat.le_of_ble_eq_true rfl) (⟨rfl, rfl⟩)
theorem d33_0 : decode jdk_44_method_1_code 0 = .ok (.aload_n 0, 1) := by decide +kernel
theorem d33_1 : decode jdk_44_method_1_code 1 = .ok (.invokespecial 1, 3) := by decide +kernel
theorem d33_4 : decode jdk_44_method_1_code 4 = .ok (.aload_n 0, 1) := by decide +kernel
theorem d33_5 : decode jdk_44_method_1_code 5 = .ok (.aload_n 1, 1) := by decide +kernel
theorem d33_6 : decode jdk_44_method_1_code 6 = .ok (.invokestatic 7, 3) := by decide +kernel
theorem pd_21 : parseMethodDescriptor "(Ljava/lang/Object;)Ljava/lang/Object;" = some ⟨[(.object "java/lang/Object")], some (.object "java/lang/Object")⟩ := by decide +kernel
theorem d33_9 : decode jdk_44_method_1_code 9 = .ok (.putfield 13, 3) := by decide +kernel
theorem d33_12 : decode jdk_44_method_1_code 12 = .ok (.aload_n 0, 1) := by decide +kernel
theorem d33_13 : decode jdk_44_method_1_code 13 = .ok (.getstatic 19, 3) := by decide +kernel
theorem d33_16 : decode jdk_44_method_1_code 16 = .ok (.putfield 24, 3) := by decide +kernel
theorem d33_19 : decode jdk_44_method_1_code 19 = .ok (.return_, 1) := by decide +kernel
theorem pn_15 : plainName "java/util/ImmutableCollections$List12" = true := by first | (simp [plainName, overriddenIn]; done) | decide +kernel
set_option maxRecDepth 65536 in
set_option maxHeartbeats 40000000 in
theorem l12_1 (l : Launch) (Z : State) (a0 : Array Value) (hw : ∀ d ∈ tables_1, d.before a0 Z = true) (n0 : Nat) (h : Heap) (O : Old Z n0 h) (s_DEF : Addr) (s_EL : Addr) (s_EA : Addr) (s_EM : Addr) (cs : Int32) (mr : Addr) (H : En Z s_DEF s_EL s_EA s_EM cs mr) (a x0 : Addr) (ga : n0 ≤ a) (E0 : Exa Z h a "java/util/ImmutableCollections$List12") (F0 : Fld Z h a "java/util/ImmutableCollections$List12" "e0" "Ljava/lang/Object;" .null) (F1 : Fld Z h a "java/util/ImmutableCollections$List12" "e1" "Ljava/lang/Object;" .null) : Con l Z (⟨"java/util/ImmutableCollections$List12", "<init>", "(Ljava/lang/Object;)V"⟩ : MethodName) jdk_44_method_1_code 2 none ({ frames := 4, cells := 0, slots := 0, locals := 48 } : Room) #[(.ref a), (.ref x0)] h n0 (fun v h' => v = none ∧ Keep h h' [a]) := by
  refine Con.mk (Ls := #[.val (.ref a), .val (.ref x0)]) (plainFor_of_name pn_15) (fun m => by first | (simp [entryFrame, mkF, argsToLocals, Value.category]; done) | rfl) (fun w C => ?_)
  replace C : Cx w l Z "java/util/ImmutableCollections$List12" jdk_44_method_1_code 2 none "<init>" ({ frames := 4, cells := 0, slots := 0, locals := 48 } : Room) n0 := C
  obtain ⟨S_DEF, E_DEF, V_DEF, S_EL, E_EL, F_EL, V_EA, S_EM, E_EM, S_CS, hcs, MIR⟩ := id H
  obtain ⟨kD, V_DEF⟩ := V_DEF
  obtain ⟨kEA, V_EA⟩ := V_EA
  refine g_aloadN C (pc' := 1) d33_0 rfl rfl rfl ?_
  refine g_special C (pc' := 4) (k' := 0) (n' := 0) (argsL := []) (rest := []) (wd hw 237 rfl) (wd hw 197 rfl) (wd hw 200 rfl) (wd hw 201 rfl) (by decide) rfl d33_1 pd_4 rfl rfl rfl (i12_0 l Z a0 hw n0 h O s_DEF s_EL s_EA s_EM cs mr H a E0) (Nat.le_of_ble_eq_true rfl) (Nat.le_of_ble_eq_true rfl) (Nat.le_of_ble_eq_true rfl) (Nat.le_of_ble_eq_true rfl) rfl rfl rfl (fun v324 h323 q325 => ?_)
  obtain ⟨rfl, eh323⟩ := q325
  subst h323
  show G w _ h 0 0 4 #[.val (.ref a), .val (.ref x0)] []
  refine g_aloadN C (pc' := 5) d33_4 rfl rfl rfl ?_
  refine g_aloadN C (pc' := 6) d33_5 rfl rfl rfl ?_
  refine g_callS C (pc' := 9) (k' := 0) (n' := 0) (argsL := [(.ref x0)]) (rest := [(.ref a)]) (wd hw 241 rfl) (wd hw 187 rfl) (wd hw 188 rfl) (wd hw 189 rfl) (by decide) d33_6 pd_21 rfl rfl rfl (rnn l Z a0 hw n0 h O s_DEF s_EL s_EA s_EM cs mr H x0) (Nat.le_of_ble_eq_true rfl) (Nat.le_of_ble_eq_true rfl) (Nat.le_of_ble_eq_true rfl) (Nat.le_of_ble_eq_true rfl) rfl rfl rfl (fun v327 h326 q328 => ?_)
  obtain ⟨rfl, eh326⟩ := q328
  subst h326
  show G w _ h 0 0 9 #[.val (.ref a), .val (.ref x0)] [(.ref x0), (.ref a)]
  refine g_putF C (pc' := 12) (ty := (.object "java/lang/Object")) (wd hw 242 rfl) Via.refl d33_9 rfl F0 E0 (Or.inr ⟨(wd hw 243 rfl), rfl, rfl⟩) (wd hw 231 rfl) (by decide) rfl rfl ga rfl (fun h329 W330 => ?_)
  have f331 := O.wr W330 ga
  have f332 := (Keep.refl h [a]).wr W330 (Or.inl (List.mem_of_getElem? (i := 0) rfl))
  have f333 := E0.wr W330
  have f334 := F0.same W330
  have f335 := F1.other W330 (Or.inr (slot_ne (Or.inr (wd hw 246 rfl)) (Or.inr (wd hw 243 rfl)) (by decide) (t := (.object "java/lang/Object")) (t' := (.object "java/lang/Object")) (by decide) (by decide)))
  refine g_aloadN C (pc' := 13) d33_12 rfl rfl rfl ?_
  refine g_getSN C (pc' := 16) (wd hw 244 rfl) Via.refl d33_13 (S_EM.ext f331.2) rfl ?_
  refine g_putF C (pc' := 19) (ty := (.object "java/lang/Object")) (wd hw 245 rfl) Via.refl d33_16 rfl f335 f333 (Or.inr ⟨(wd hw 246 rfl), rfl, rfl⟩) (wd hw 231 rfl) (by decide) rfl rfl ga rfl (fun h336 W337 => ?_)
  have f338 := f331.wr W337 ga
  have f339 := f332.wr W337 (Or.inl (List.mem_of_getElem? (i := 0) rfl))
  have f340 := f333.wr W337
  have f341 := f334.other W337 (Or.inr (slot_ne (Or.inr (wd hw 243 rfl)) (Or.inr (wd hw 246 rfl)) (by decide) (t := (.object "java/lang/Object")) (t' := (.object "java/lang/Object")) (by decide) (by decide)))
  have f342 := f335.same W337
  exact g_return C d33_19 rfl (Nat.le_of_ble_eq_true rfl) (Nat.le_of_ble_eq_true rfl) (⟨rfl, f339⟩)
theorem d35_0 : decode jdk_44_method_2_code 0 = .ok (.aload_n 0, 1) := by decide +kernel
theorem d35_1 : decode jdk_44_method_2_code 1 = .ok (.invokespecial 1, 3) := by decide +kernel
theorem d35_4 : decode jdk_44_method_2_code 4 = .ok (.aload_n 0, 1) := by decide +kernel
theorem d35_5 : decode jdk_44_method_2_code 5 = .ok (.aload_n 1, 1) := by decide +kernel
theorem d35_6 : decode jdk_44_method_2_code 6 = .ok (.invokestatic 7, 3) := by decide +kernel
theorem d35_9 : decode jdk_44_method_2_code 9 = .ok (.putfield 13, 3) := by decide +kernel
theorem d35_12 : decode jdk_44_method_2_code 12 = .ok (.aload_n 0, 1) := by decide +kernel
theorem d35_13 : decode jdk_44_method_2_code 13 = .ok (.aload_n 2, 1) := by decide +kernel
theorem d35_14 : decode jdk_44_method_2_code 14 = .ok (.invokestatic 7, 3) := by decide +kernel
theorem d35_17 : decode jdk_44_method_2_code 17 = .ok (.putfield 24, 3) := by decide +kernel
theorem d35_20 : decode jdk_44_method_2_code 20 = .ok (.return_, 1) := by decide +kernel
set_option maxRecDepth 65536 in
set_option maxHeartbeats 40000000 in
theorem l12_2 (l : Launch) (Z : State) (a0 : Array Value) (hw : ∀ d ∈ tables_1, d.before a0 Z = true) (n0 : Nat) (h : Heap) (O : Old Z n0 h) (s_DEF : Addr) (s_EL : Addr) (s_EA : Addr) (s_EM : Addr) (cs : Int32) (mr : Addr) (H : En Z s_DEF s_EL s_EA s_EM cs mr) (a x0 x1 : Addr) (ga : n0 ≤ a) (E0 : Exa Z h a "java/util/ImmutableCollections$List12") (F0 : Fld Z h a "java/util/ImmutableCollections$List12" "e0" "Ljava/lang/Object;" .null) (F1 : Fld Z h a "java/util/ImmutableCollections$List12" "e1" "Ljava/lang/Object;" .null) : Con l Z (⟨"java/util/ImmutableCollections$List12", "<init>", "(Ljava/lang/Object;Ljava/lang/Object;)V"⟩ : MethodName) jdk_44_method_2_code 3 none ({ frames := 4, cells := 0, slots := 0, locals := 48 } : Room) #[(.ref a), (.ref x0), (.ref x1)] h n0 (fun v h' => v = none ∧ Keep h h' [a]) := by
  refine Con.mk (Ls := #[.val (.ref a), .val (.ref x0), .val (.ref x1)]) (plainFor_of_name pn_15) (fun m => by first | (simp [entryFrame, mkF, argsToLocals, Value.category]; done) | rfl) (fun w C => ?_)
  replace C : Cx w l Z "java/util/ImmutableCollections$List12" jdk_44_method_2_code 3 none "<init>" ({ frames := 4, cells := 0, slots := 0, locals := 48 } : Room) n0 := C
  obtain ⟨S_DEF, E_DEF, V_DEF, S_EL, E_EL, F_EL, V_EA, S_EM, E_EM, S_CS, hcs, MIR⟩ := id H
  obtain ⟨kD, V_DEF⟩ := V_DEF
  obtain ⟨kEA, V_EA⟩ := V_EA
  refine g_aloadN C (pc' := 1) d35_0 rfl rfl rfl ?_
  refine g_special C (pc' := 4) (k' := 0) (n' := 0) (argsL := []) (rest := []) (wd hw 237 rfl) (wd hw 197 rfl) (wd hw 200 rfl) (wd hw 201 rfl) (by decide) rfl d35_1 pd_4 rfl rfl rfl (i12_0 l Z a0 hw n0 h O s_DEF s_EL s_EA s_EM cs mr H a E0) (Nat.le_of_ble_eq_true rfl) (Nat.le_of_ble_eq_true rfl) (Nat.le_of_ble_eq_true rfl) (Nat.le_of_ble_eq_true rfl) rfl rfl rfl (fun v344 h343 q345 => ?_)
  obtain ⟨rfl, eh343⟩ := q345
  subst h343
  show G w _ h 0 0 4 #[.val (.ref a), .val (.ref x0), .val (.ref x1)] []
  refine g_aloadN C (pc' := 5) d35_4 rfl rfl rfl ?_
  refine g_aloadN C (pc' := 6) d35_5 rfl rfl rfl ?_
  refine g_callS C (pc' := 9) (k' := 0) (n' := 0) (argsL := [(.ref x0)]) (rest := [(.ref a)]) (wd hw 241 rfl) (wd hw 187 rfl) (wd hw 188 rfl) (wd hw 189 rfl) (by decide) d35_6 pd_21 rfl rfl rfl (rnn l Z a0 hw n0 h O s_DEF s_EL s_EA s_EM cs mr H x0) (Nat.le_of_ble_eq_true rfl) (Nat.le_of_ble_eq_true rfl) (Nat.le_of_ble_eq_true rfl) (Nat.le_of_ble_eq_true rfl) rfl rfl rfl (fun v347 h346 q348 => ?_)
  obtain ⟨rfl, eh346⟩ := q348
  subst h346
  show G w _ h 0 0 9 #[.val (.ref a), .val (.ref x0), .val (.ref x1)] [(.ref x0), (.ref a)]
  refine g_putF C (pc' := 12) (ty := (.object "java/lang/Object")) (wd hw 242 rfl) Via.refl d35_9 rfl F0 E0 (Or.inr ⟨(wd hw 243 rfl), rfl, rfl⟩) (wd hw 231 rfl) (by decide) rfl rfl ga rfl (fun h349 W350 => ?_)
  have f351 := O.wr W350 ga
  have f352 := (Keep.refl h [a]).wr W350 (Or.inl (List.mem_of_getElem? (i := 0) rfl))
  have f353 := E0.wr W350
  have f354 := F0.same W350
  have f355 := F1.other W350 (Or.inr (slot_ne (Or.inr (wd hw 246 rfl)) (Or.inr (wd hw 243 rfl)) (by decide) (t := (.object "java/lang/Object")) (t' := (.object "java/lang/Object")) (by decide) (by decide)))
  refine g_aloadN C (pc' := 13) d35_12 rfl rfl rfl ?_
  refine g_aloadN C (pc' := 14) d35_13 rfl rfl rfl ?_
  refine g_callS C (pc' := 17) (k' := 0) (n' := 0) (argsL := [(.ref x1)]) (rest := [(.ref a)]) (wd hw 241 rfl) (wd hw 187 rfl) (wd hw 188 rfl) (wd hw 189 rfl) (by decide) d35_14 pd_21 rfl rfl rfl (rnn l Z a0 hw n0 h349 f351 s_DEF s_EL s_EA s_EM cs mr H x1) (Nat.le_of_ble_eq_true rfl) (Nat.le_of_ble_eq_true rfl) (Nat.le_of_ble_eq_true rfl) (Nat.le_of_ble_eq_true rfl) rfl rfl rfl (fun v357 h356 q358 => ?_)
  obtain ⟨rfl, eh356⟩ := q358
  subst h356
  show G w _ h349 0 0 17 #[.val (.ref a), .val (.ref x0), .val (.ref x1)] [(.ref x1), (.ref a)]
  refine g_putF C (pc' := 20) (ty := (.object "java/lang/Object")) (wd hw 245 rfl) Via.refl d35_17 rfl f355 f353 (Or.inr ⟨(wd hw 246 rfl), rfl, rfl⟩) (wd hw 231 rfl) (by decide) rfl rfl ga rfl (fun h359 W360 => ?_)
  have f361 := f351.wr W360 ga
  have f362 := f352.wr W360 (Or.inl (List.mem_of_getElem? (i := 0) rfl))
  have f363 := f353.wr W360
  have f364 := f354.other W360 (Or.inr (slot_ne (Or.inr (wd hw 243 rfl)) (Or.inr (wd hw 246 rfl)) (by decide) (t := (.object "java/lang/Object")) (t' := (.object "java/lang/Object")) (by decide) (by decide)))
  have f365 := f355.same W360
  exact g_return C d35_20 rfl (Nat.le_of_ble_eq_true rfl) (Nat.le_of_ble_eq_true rfl) (⟨rfl, f362⟩)
set_option maxRecDepth 65536 in
set_option maxHeartbeats 40000000 in
theorem iN_2 (l : Launch) (Z : State) (a0 : Array Value) (hw : ∀ d ∈ tables_1, d.before a0 Z = true) (n0 : Nat) (h : Heap) (O : Old Z n0 h) (s_DEF : Addr) (s_EL : Addr) (s_EA : Addr) (s_EM : Addr) (cs : Int32) (mr : Addr) (H : En Z s_DEF s_EL s_EA s_EM cs mr) (a : Addr) (E0 : Exa Z h a "java/util/ImmutableCollections$ListN") : Con l Z (⟨"java/util/AbstractCollection", "<init>", "()V"⟩ : MethodName) jdk_22_method_1_code 1 none ({ frames := 1, cells := 0, slots := 0, locals := 12 } : Room) #[(.ref a)] h n0 (fun v h' => v = none ∧ h' = h) := by
  refine Con.mk (Ls := #[.val (.ref a)]) (plainFor_of_name pn_8) (fun m => by first | (simp [entryFrame, mkF, argsToLocals, Value.category]; done) | rfl) (fun w C => ?_)
  replace C : Cx w l Z "java/util/AbstractCollection" jdk_22_method_1_code 1 none "<init>" ({ frames := 1, cells := 0, slots := 0, locals := 12 } : Room) n0 := C
  obtain ⟨S_DEF, E_DEF, V_DEF, S_EL, E_EL, F_EL, V_EA, S_EM, E_EM, S_CS, hcs, MIR⟩ := id H
  obtain ⟨kD, V_DEF⟩ := V_DEF
  obtain ⟨kEA, V_EA⟩ := V_EA
  refine g_aloadN C (pc' := 1) d10_0 rfl rfl rfl ?_
  refine g_initO C (pc' := 4) (wd hw 72 rfl) (wd hw 26 rfl) (wd hw 27 rfl) d10_1 rfl rfl (Nat.le_of_ble_eq_true rfl) (Nat.le_of_ble_eq_true rfl) rfl ?_
  exact g_return C d10_4 rfl (Nat.le_of_ble_eq_true rfl) (Nat.le_of_ble_eq_true rfl) (⟨rfl, rfl⟩)
set_option maxRecDepth 65536 in
set_option maxHeartbeats 40000000 in
theorem iN_1 (l : Launch) (Z : State) (a0 : Array Value) (hw : ∀ d ∈ tables_1, d.before a0 Z = true) (n0 : Nat) (h : Heap) (O : Old Z n0 h) (s_DEF : Addr) (s_EL : Addr) (s_EA : Addr) (s_EM : Addr) (cs : Int32) (mr : Addr) (H : En Z s_DEF s_EL s_EA s_EM cs mr) (a : Addr) (E0 : Exa Z h a "java/util/ImmutableCollections$ListN") : Con l Z (⟨"java/util/ImmutableCollections$AbstractImmutableCollection", "<init>", "()V"⟩ : MethodName) jdk_47_method_1_code 1 none ({ frames := 2, cells := 0, slots := 0, locals := 24 } : Room) #[(.ref a)] h n0 (fun v h' => v = none ∧ h' = h) := by
  refine Con.mk (Ls := #[.val (.ref a)]) (plainFor_of_name pn_13) (fun m => by first | (simp [entryFrame, mkF, argsToLocals, Value.category]; done) | rfl) (fun w C => ?_)
  replace C : Cx w l Z "java/util/ImmutableCollections$AbstractImmutableCollection" jdk_47_method_1_code 1 none "<init>" ({ frames := 2, cells := 0, slots := 0, locals := 24 } : Room) n0 := C
  obtain ⟨S_DEF, E_DEF, V_DEF, S_EL, E_EL, F_EL, V_EA, S_EM, E_EM, S_CS, hcs, MIR⟩ := id H
  obtain ⟨kD, V_DEF⟩ := V_DEF
  obtain ⟨kEA, V_EA⟩ := V_EA
  refine g_aloadN C (pc' := 1) d30_0 rfl rfl rfl ?_
  refine g_special C (pc' := 4) (k' := 0) (n' := 0) (argsL := []) (rest := []) (wd hw 208 rfl) (wd hw 67 rfl) (wd hw 70 rfl) (wd hw 71 rfl) (by decide) rfl d30_1 pd_4 rfl rfl rfl (iN_2 l Z a0 hw n0 h O s_DEF s_EL s_EA s_EM cs mr H a E0) (Nat.le_of_ble_eq_true rfl) (Nat.le_of_ble_eq_true rfl) (Nat.le_of_ble_eq_true rfl) (Nat.le_of_ble_eq_true rfl) rfl rfl rfl (fun v367 h366 q368 => ?_)
  obtain ⟨rfl, eh366⟩ := q368
  subst h366
  show G w _ h 0 0 4 #[.val (.ref a)] []
  exact g_return C d30_4 rfl (Nat.le_of_ble_eq_true rfl) (Nat.le_of_ble_eq_true rfl) (⟨rfl, rfl⟩)
set_option maxRecDepth 65536 in
set_option maxHeartbeats 40000000 in
theorem iN_0 (l : Launch) (Z : State) (a0 : Array Value) (hw : ∀ d ∈ tables_1, d.before a0 Z = true) (n0 : Nat) (h : Heap) (O : Old Z n0 h) (s_DEF : Addr) (s_EL : Addr) (s_EA : Addr) (s_EM : Addr) (cs : Int32) (mr : Addr) (H : En Z s_DEF s_EL s_EA s_EM cs mr) (a : Addr) (E0 : Exa Z h a "java/util/ImmutableCollections$ListN") : Con l Z (⟨"java/util/ImmutableCollections$AbstractImmutableList", "<init>", "()V"⟩ : MethodName) jdk_46_method_1_code 1 none ({ frames := 3, cells := 0, slots := 0, locals := 36 } : Room) #[(.ref a)] h n0 (fun v h' => v = none ∧ h' = h) := by
  refine Con.mk (Ls := #[.val (.ref a)]) (plainFor_of_name pn_14) (fun m => by first | (simp [entryFrame, mkF, argsToLocals, Value.category]; done) | rfl) (fun w C => ?_)
  replace C : Cx w l Z "java/util/ImmutableCollections$AbstractImmutableList" jdk_46_method_1_code 1 none "<init>" ({ frames := 3, cells := 0, slots := 0, locals := 36 } : Room) n0 := C
  obtain ⟨S_DEF, E_DEF, V_DEF, S_EL, E_EL, F_EL, V_EA, S_EM, E_EM, S_CS, hcs, MIR⟩ := id H
  obtain ⟨kD, V_DEF⟩ := V_DEF
  obtain ⟨kEA, V_EA⟩ := V_EA
  refine g_aloadN C (pc' := 1) d29_0 rfl rfl rfl ?_
  refine g_special C (pc' := 4) (k' := 0) (n' := 0) (argsL := []) (rest := []) (wd hw 202 rfl) (wd hw 203 rfl) (wd hw 206 rfl) (wd hw 207 rfl) (by decide) rfl d29_1 pd_4 rfl rfl rfl (iN_1 l Z a0 hw n0 h O s_DEF s_EL s_EA s_EM cs mr H a E0) (Nat.le_of_ble_eq_true rfl) (Nat.le_of_ble_eq_true rfl) (Nat.le_of_ble_eq_true rfl) (Nat.le_of_ble_eq_true rfl) rfl rfl rfl (fun v370 h369 q371 => ?_)
  obtain ⟨rfl, eh369⟩ := q371
  subst h369
  show G w _ h 0 0 4 #[.val (.ref a)] []
  exact g_return C d29_4 rfl (Nat.le_of_ble_eq_true rfl) (Nat.le_of_ble_eq_true rfl) (⟨rfl, rfl⟩)
theorem d28_0 : decode jdk_45_method_1_code 0 = .ok (.aload_n 0, 1) := by decide +kernel
theorem d28_1 : decode jdk_45_method_1_code 1 = .ok (.invokespecial 1, 3) := by decide +kernel
theorem d28_4 : decode jdk_45_method_1_code 4 = .ok (.aload_n 0, 1) := by decide +kernel
theorem d28_5 : decode jdk_45_method_1_code 5 = .ok (.aload_n 1, 1) := by decide +kernel
theorem d28_6 : decode jdk_45_method_1_code 6 = .ok (.putfield 7, 3) := by decide +kernel
theorem d28_9 : decode jdk_45_method_1_code 9 = .ok (.aload_n 0, 1) := by decide +kernel
theorem d28_10 : decode jdk_45_method_1_code 10 = .ok (.iload_n 2, 1) := by decide +kernel
theorem d28_11 : decode jdk_45_method_1_code 11 = .ok (.putfield 13, 3) := by decide +kernel
theorem d28_14 : decode jdk_45_method_1_code 14 = .ok (.return_, 1) := by decide +kernel
theorem pn_16 : plainName "java/util/ImmutableCollections$ListN" = true := by first | (simp [plainName, overriddenIn]; done) | decide +kernel
set_option maxRecDepth 65536 in
set_option maxHeartbeats 40000000 in
theorem lN (l : Launch) (Z : State) (a0 : Array Value) (hw : ∀ d ∈ tables_1, d.before a0 Z = true) (n0 : Nat) (h : Heap) (O : Old Z n0 h) (s_DEF : Addr) (s_EL : Addr) (s_EA : Addr) (s_EM : Addr) (cs : Int32) (mr : Addr) (H : En Z s_DEF s_EL s_EA s_EM cs mr) (a ar : Addr) (ga : n0 ≤ a) (E0 : Exa Z h a "java/util/ImmutableCollections$ListN") (F0 : Fld Z h a "java/util/ImmutableCollections$ListN" "elements" "[Ljava/lang/Object;" .null) (F1 : Fld Z h a "java/util/ImmutableCollections$ListN" "allowNulls" "Z" (.int (0 : Int32))) : Con l Z (⟨"java/util/ImmutableCollections$ListN", "<init>", "([Ljava/lang/Object;Z)V"⟩ : MethodName) jdk_45_method_1_code 3 none ({ frames := 4, cells := 0, slots := 0, locals := 48 } : Room) #[(.ref a), (.ref ar), (.int (0 : Int32))] h n0 (fun v h' => v = none ∧ Keep h h' [a] ∧ Exa Z h' a "java/util/ImmutableCollections$ListN" ∧ Fld Z h' a "java/util/ImmutableCollections$ListN" "elements" "[Ljava/lang/Object;" (.ref ar)) := by
  refine Con.mk (Ls := #[.val (.ref a), .val (.ref ar), .val (.int (0 : Int32))]) (plainFor_of_name pn_16) (fun m => by first | (simp [entryFrame, mkF, argsToLocals, Value.category]; done) | rfl) (fun w C => ?_)
  replace C : Cx w l Z "java/util/ImmutableCollections$ListN" jdk_45_method_1_code 3 none "<init>" ({ frames := 4, cells := 0, slots := 0, locals := 48 } : Room) n0 := C
  obtain ⟨S_DEF, E_DEF, V_DEF, S_EL, E_EL, F_EL, V_EA, S_EM, E_EM, S_CS, hcs, MIR⟩ := id H
  obtain ⟨kD, V_DEF⟩ := V_DEF
  obtain ⟨kEA, V_EA⟩ := V_EA
  refine g_aloadN C (pc' := 1) d28_0 rfl rfl rfl ?_
  refine g_special C (pc' := 4) (k' := 0) (n' := 0) (argsL := []) (rest := []) (wd hw 196 rfl) (wd hw 197 rfl) (wd hw 200 rfl) (wd hw 201 rfl) (by decide) rfl d28_1 pd_4 rfl rfl rfl (iN_0 l Z a0 hw n0 h O s_DEF s_EL s_EA s_EM cs mr H a E0) (Nat.le_of_ble_eq_true rfl) (Nat.le_of_ble_eq_true rfl) (Nat.le_of_ble_eq_true rfl) (Nat.le_of_ble_eq_true rfl) rfl rfl rfl (fun v373 h372 q374 => ?_)
  obtain ⟨rfl, eh372⟩ := q374
  subst h372
  show G w _ h 0 0 4 #[.val (.ref a), .val (.ref ar), .val (.int (0 : Int32))] []
  refine g_aloadN C (pc' := 5) d28_4 rfl rfl rfl ?_
  refine g_aloadN C (pc' := 6) d28_5 rfl rfl rfl ?_
  refine g_putF C (pc' := 9) (ty := (.array (.object "java/lang/Object"))) (wd hw 210 rfl) Via.refl d28_6 rfl F0 E0 (Or.inr ⟨(wd hw 211 rfl), rfl, rfl⟩) (wd hw 190 rfl) (by decide) rfl rfl ga rfl (fun h375 W376 => ?_)
  have f377 := O.wr W376 ga
  have f378 := (Keep.refl h [a]).wr W376 (Or.inl (List.mem_of_getElem? (i := 0) rfl))
  have f379 := E0.wr W376
  have f380 := F0.same W376
  have f381 := F1.other W376 (Or.inr (slot_ne (Or.inr (wd hw 213 rfl)) (Or.inr (wd hw 211 rfl)) (by decide) (t := .boolean) (t' := (.array (.object "java/lang/Object"))) (by decide) (by decide)))
  refine g_aloadN C (pc' := 10) d28_9 rfl rfl rfl ?_
  refine g_iloadN C (pc' := 11) d28_10 rfl rfl ?_
  refine g_putFN C (pc' := 14) (v' := (.int (0 : Int32))) (ty := .boolean) (wd hw 212 rfl) Via.refl d28_11 rfl f381 f379 (Or.inr ⟨(wd hw 213 rfl), rfl, rfl⟩) (wd hw 190 rfl) (by decide) rfl rfl ga rfl (fun h382 W383 => ?_)
  have f384 := f377.wr W383 ga
  have f385 := f378.wr W383 (Or.inl (List.mem_of_getElem? (i := 0) rfl))
  have f386 := f379.wr W383
  have f387 := f380.other W383 (Or.inr (slot_ne (Or.inr (wd hw 211 rfl)) (Or.inr (wd hw 213 rfl)) (by decide) (t := (.array (.object "java/lang/Object"))) (t' := .boolean) (by decide) (by decide)))
  have f388 := f381.same W383
  exact g_return C d28_14 rfl (Nat.le_of_ble_eq_true rfl) (Nat.le_of_ble_eq_true rfl) (⟨rfl, f385, f386, f387⟩)
theorem d18_0 : decode jdk_56_method_3_code 0 = .ok (.aload_n 0, 1) := by decide +kernel
theorem d18_1 : decode jdk_56_method_3_code 1 = .ok (.instanceof 10, 3) := by decide +kernel
theorem d18_4 : decode jdk_56_method_3_code 4 = .ok (.ifCond .ne 22, 3) := by decide +kernel
theorem d18_7 : decode jdk_56_method_3_code 7 = .ok (.aload_n 0, 1) := by decide +kernel
theorem d18_8 : decode jdk_56_method_3_code 8 = .ok (.instanceof 12, 3) := by decide +kernel
theorem d18_11 : decode jdk_56_method_3_code 11 = .ok (.ifCond .eq 20, 3) := by decide +kernel
theorem d18_31 : decode jdk_56_method_3_code 31 = .ok (.aload_n 0, 1) := by decide +kernel
theorem d18_32 : decode jdk_56_method_3_code 32 = .ok (.invokeinterface 20 1, 5) := by decide +kernel
theorem pd_14 : parseMethodDescriptor "()Z" = some ⟨[], some .boolean⟩ := by decide +kernel
theorem d18_37 : decode jdk_56_method_3_code 37 = .ok (.ifCond .eq 7, 3) := by decide +kernel
theorem d18_40 : decode jdk_56_method_3_code 40 = .ok (.invokestatic 26, 3) := by decide +kernel
theorem pd_15 : parseMethodDescriptor "()Ljava/util/List;" = some ⟨[], some (.object "java/util/List")⟩ := by decide +kernel
theorem d18_43 : decode jdk_56_method_3_code 43 = .ok (.areturn, 1) := by decide +kernel
theorem pn_12 : plainName "java/util/ImmutableCollections" = true := by first | (simp [plainName, overriddenIn]; done) | decide +kernel
set_option maxRecDepth 65536 in
set_option maxHeartbeats 40000000 in
theorem lcp_0 (l : Launch) (Z : State) (a0 : Array Value) (hw : ∀ d ∈ tables_1, d.before a0 Z = true) (n0 : Nat) (h : Heap) (O : Old Z n0 h) (s_DEF : Addr) (s_EL : Addr) (s_EA : Addr) (s_EM : Addr) (cs : Int32) (mr : Addr) (H : En Z s_DEF s_EL s_EA s_EM cs mr) (a : Addr) (mc : Int32) (P : AL0 Z n0 h a s_DEF mc) : Con l Z (⟨"java/util/ImmutableCollections", "listCopy", "(Ljava/util/Collection;)Ljava/util/List;"⟩ : MethodName) jdk_56_method_3_code 2 (some (.object "java/util/List")) ({ frames := 1, cells := 0, slots := 0, locals := 12 } : Room) #[(.ref a)] h n0 (fun v h' => v = some (.ref s_EL) ∧ h' = h) := by
  refine Con.mk (Ls := #[.val (.ref a), .unset]) (plainFor_of_name pn_12) (fun m => by first | (simp [entryFrame, mkF, argsToLocals, Value.category]; done) | rfl) (fun w C => ?_)
  replace C : Cx w l Z "java/util/ImmutableCollections" jdk_56_method_3_code 2 (some (.object "java/util/List")) "listCopy" ({ frames := 1, cells := 0, slots := 0, locals := 12 } : Room) n0 := C
  obtain ⟨S_DEF, E_DEF, V_DEF, S_EL, E_EL, F_EL, V_EA, S_EM, E_EM, S_CS, hcs, MIR⟩ := id H
  obtain ⟨kD, V_DEF⟩ := V_DEF
  obtain ⟨kEA, V_EA⟩ := V_EA
  have P0 := P
  obtain ⟨ga, E0, F1, F2, F3⟩ := P
  refine g_aloadN C (pc' := 1) d18_0 rfl rfl rfl ?_
  refine g_instN C (pc' := 4) (wd hw 128 rfl) d18_1 rfl E0 (ns_no (wd hw 129 rfl) (wd hw 231 rfl) (NS.step (wd hw 129 rfl) (NS.step (wd hw 130 rfl) (NS.step (wd hw 131 rfl) (ns_root (wd hw 132 rfl) (wd hw 231 rfl) (by decide)) (by decide)) (by decide)) (by decide)) (by decide)) rfl ?_
  refine g_ifN C (pc' := 7) d18_4 rfl (by decide) rfl ?_
  refine g_aloadN C (pc' := 8) d18_7 rfl rfl rfl ?_
  refine g_instN C (pc' := 11) (wd hw 133 rfl) d18_8 rfl E0 (ns_no (wd hw 129 rfl) (wd hw 190 rfl) (NS.step (wd hw 129 rfl) (NS.step (wd hw 130 rfl) (NS.step (wd hw 131 rfl) (ns_root (wd hw 132 rfl) (wd hw 190 rfl) (by decide)) (by decide)) (by decide)) (by decide)) (by decide)) rfl ?_
  refine g_ifY C (pc' := 31) d18_11 rfl (by decide) (by decide) rfl ?_
  refine g_aloadN C (pc' := 32) d18_31 rfl rfl rfl ?_
  refine g_interface C (pc' := 37) (k' := 0) (n' := 0) (argsL := []) (rest := []) (wd hw 134 rfl) (wd hw 135 rfl) (wd hw 136 rfl) rfl (wd hw 137 rfl) (wd hw 138 rfl) (wd hw 139 rfl) (wd hw 140 rfl) (wd hw 141 rfl) (wd hw 56 rfl) (wd hw 142 rfl) (by decide) d18_32 pd_14 rfl rfl rfl E0 (alEmp_0 l Z a0 hw n0 h O s_DEF s_EL s_EA s_EM cs mr H a mc P0) (Nat.le_of_ble_eq_true rfl) (Nat.le_of_ble_eq_true rfl) (Nat.le_of_ble_eq_true rfl) (Nat.le_of_ble_eq_true rfl) rfl rfl rfl (fun v390 h389 q391 => ?_)
  obtain ⟨rfl, eh389⟩ := q391
  subst h389
  show G w _ h 0 0 37 #[.val (.ref a), .unset] [(.int (1 : Int32))]
  refine g_ifN C (pc' := 40) d18_37 rfl (by decide) rfl ?_
  refine g_callS C (pc' := 43) (k' := 0) (n' := 0) (argsL := []) (rest := []) (wd hw 143 rfl) (wd hw 144 rfl) (wd hw 122 rfl) (wd hw 145 rfl) (by decide) d18_40 pd_15 rfl rfl rfl (lof l Z a0 hw n0 h O s_DEF s_EL s_EA s_EM cs mr H) (Nat.le_of_ble_eq_true rfl) (Nat.le_of_ble_eq_true rfl) (Nat.le_of_ble_eq_true rfl) (Nat.le_of_ble_eq_true rfl) rfl rfl rfl (fun v393 h392 q394 => ?_)
  obtain ⟨rfl, eh392⟩ := q394
  subst h392
  show G w _ h 0 0 43 #[.val (.ref a), .unset] [(.ref s_EL)]
  exact g_areturn C d18_43 rfl rfl rfl rfl (Nat.le_of_ble_eq_true rfl) (Nat.le_of_ble_eq_true rfl) (⟨rfl, rfl⟩)
theorem d17_0 : decode jdk_40_method_48_code 0 = .ok (.aload_n 0, 1) := by decide +kernel
theorem d17_1 : decode jdk_40_method_48_code 1 = .ok (.invokestatic 112, 3) := by decide +kernel
theorem pd_13 : parseMethodDescriptor "(Ljava/util/Collection;)Ljava/util/List;" = some ⟨[(.object "java/util/Collection")], some (.object "java/util/List")⟩ := by decide +kernel
theorem d17_4 : decode jdk_40_method_48_code 4 = .ok (.areturn, 1) := by decide +kernel
set_option maxRecDepth 65536 in
set_option maxHeartbeats 40000000 in
theorem cpo_0 (l : Launch) (Z : State) (a0 : Array Value) (hw : ∀ d ∈ tables_1, d.before a0 Z = true) (n0 : Nat) (h : Heap) (O : Old Z n0 h) (s_DEF : Addr) (s_EL : Addr) (s_EA : Addr) (s_EM : Addr) (cs : Int32) (mr : Addr) (H : En Z s_DEF s_EL s_EA s_EM cs mr) (a : Addr) (mc : Int32) (P : AL0 Z n0 h a s_DEF mc) : Con l Z (⟨"java/util/List", "copyOf", "(Ljava/util/Collection;)Ljava/util/List;"⟩ : MethodName) jdk_40_method_48_code 1 (some (.object "java/util/List")) ({ frames := 2, cells := 0, slots := 0, locals := 25 } : Room) #[(.ref a)] h n0 (fun v h' => v = some (.ref s_EL) ∧ h' = h) := by
  refine Con.mk (Ls := #[.val (.ref a)]) (plainFor_of_name pn_17) (fun m => by first | (simp [entryFrame, mkF, argsToLocals, Value.category]; done) | rfl) (fun w C => ?_)
  replace C : Cx w l Z "java/util/List" jdk_40_method_48_code 1 (some (.object "java/util/List")) "copyOf" ({ frames := 2, cells := 0, slots := 0, locals := 25 } : Room) n0 := C
  obtain ⟨S_DEF, E_DEF, V_DEF, S_EL, E_EL, F_EL, V_EA, S_EM, E_EM, S_CS, hcs, MIR⟩ := id H
  obtain ⟨kD, V_DEF⟩ := V_DEF
  obtain ⟨kEA, V_EA⟩ := V_EA
  refine g_aloadN C (pc' := 1) d17_0 rfl rfl rfl ?_
  refine g_callS C (pc' := 4) (k' := 0) (n' := 0) (argsL := [(.ref a)]) (rest := []) (wd hw 124 rfl) (wd hw 125 rfl) (wd hw 126 rfl) (wd hw 127 rfl) (by decide) d17_1 pd_13 rfl rfl rfl (lcp_0 l Z a0 hw n0 h O s_DEF s_EL s_EA s_EM cs mr H a mc  P) (Nat.le_of_ble_eq_true rfl) (Nat.le_of_ble_eq_true rfl) (Nat.le_of_ble_eq_true rfl) (Nat.le_of_ble_eq_true rfl) rfl rfl rfl (fun v396 h395 q397 => ?_)
  obtain ⟨rfl, eh395⟩ := q397
  subst h395
  show G w _ h 0 0 4 #[.val (.ref a)] [(.ref s_EL)]
  exact g_areturn C d17_4 rfl rfl rfl rfl (Nat.le_of_ble_eq_true rfl) (Nat.le_of_ble_eq_true rfl) (⟨rfl, rfl⟩)
theorem d24_0 : decode jdk_29_method_69_code 0 = .ok (.iload_n 0, 1) := by decide +kernel
theorem d24_1 : decode jdk_29_method_69_code 1 = .ok (.iload_n 1, 1) := by decide +kernel
theorem d24_2 : decode jdk_29_method_69_code 2 = .ok (.if_icmp .gt 7, 3) := by decide +kernel
theorem d24_9 : decode jdk_29_method_69_code 9 = .ok (.iload_n 1, 1) := by decide +kernel
theorem d24_10 : decode jdk_29_method_69_code 10 = .ok (.ireturn, 1) := by decide +kernel
set_option maxRecDepth 65536 in
set_option maxHeartbeats 40000000 in
theorem min_10_1 (l : Launch) (Z : State) (a0 : Array Value) (hw : ∀ d ∈ tables_1, d.before a0 Z = true) (n0 : Nat) (h : Heap) (O : Old Z n0 h) (s_DEF : Addr) (s_EL : Addr) (s_EA : Addr) (s_EM : Addr) (cs : Int32) (mr : Addr) (H : En Z s_DEF s_EL s_EA s_EM cs mr) : Con l Z (⟨"java/lang/Math", "min", "(II)I"⟩ : MethodName) jdk_29_method_69_code 2 (some .int) ({ frames := 0, cells := 0, slots := 0, locals := 0 } : Room) #[(.int (10 : Int32)), (.int (1 : Int32))] h n0 (fun v h' => v = some (.int (1 : Int32)) ∧ h' = h) := by
  refine Con.mk (Ls := #[.val (.int (10 : Int32)), .val (.int (1 : Int32))]) (Jvm.Free.JP.mathPlain rfl (by decide +kernel)) (fun m => by first | (simp [entryFrame, mkF, argsToLocals, Value.category]; done) | rfl) (fun w C => ?_)
  replace C : Cx w l Z "java/lang/Math" jdk_29_method_69_code 2 (some .int) "min" ({ frames := 0, cells := 0, slots := 0, locals := 0 } : Room) n0 := C
  obtain ⟨S_DEF, E_DEF, V_DEF, S_EL, E_EL, F_EL, V_EA, S_EM, E_EM, S_CS, hcs, MIR⟩ := id H
  refine g_iloadN C (pc' := 1) d24_0 rfl rfl ?_
  refine g_iloadN C (pc' := 2) d24_1 rfl rfl ?_
  refine g_icY C (pc' := 9) d24_2 rfl (by decide) (by decide) rfl ?_
  refine g_iloadN C (pc' := 10) d24_9 rfl rfl ?_
  exact g_ireturn C d24_10 rfl (Nat.le_of_ble_eq_true rfl) (Nat.le_of_ble_eq_true rfl) (⟨rfl, rfl⟩)
theorem d23_0 : decode jdk_65_method_120_code 0 = .ok (.aload_n 2, 1) := by decide +kernel
theorem d23_1 : decode jdk_65_method_120_code 1 = .ok (.ldc 110, 2) := by decide +kernel
theorem d23_3 : decode jdk_65_method_120_code 3 = .ok (.if_acmp .ne 10, 3) := by decide +kernel
theorem d23_6 : decode jdk_65_method_120_code 6 = .ok (.iload_n 1, 1) := by decide +kernel
theorem d23_7 : decode jdk_65_method_120_code 7 = .ok (.anewarray 2, 3) := by decide +kernel
theorem d23_10 : decode jdk_65_method_120_code 10 = .ok (.goto 14, 3) := by decide +kernel
theorem d23_24 : decode jdk_65_method_120_code 24 = .ok (.astore_n 3, 1) := by decide +kernel
theorem d23_25 : decode jdk_65_method_120_code 25 = .ok (.aload_n 0, 1) := by decide +kernel
theorem d23_26 : decode jdk_65_method_120_code 26 = .ok (.iconst 0, 1) := by decide +kernel
theorem d23_27 : decode jdk_65_method_120_code 27 = .ok (.aload_n 3, 1) := by decide +kernel
theorem d23_28 : decode jdk_65_method_120_code 28 = .ok (.iconst 0, 1) := by decide +kernel
theorem d23_29 : decode jdk_65_method_120_code 29 = .ok (.aload_n 0, 1) := by decide +kernel
theorem d23_30 : decode jdk_65_method_120_code 30 = .ok (.arraylength, 1) := by decide +kernel
theorem d23_31 : decode jdk_65_method_120_code 31 = .ok (.iload_n 1, 1) := by decide +kernel
theorem d23_32 : decode jdk_65_method_120_code 32 = .ok (.invokestatic 304, 3) := by decide +kernel
theorem d23_35 : decode jdk_65_method_120_code 35 = .ok (.invokestatic 150, 3) := by decide +kernel
theorem d23_38 : decode jdk_65_method_120_code 38 = .ok (.aload_n 3, 1) := by decide +kernel
theorem d23_39 : decode jdk_65_method_120_code 39 = .ok (.areturn, 1) := by decide +kernel
theorem pn_11 : plainName "java/util/Arrays" = true := by first | (simp [plainName, overriddenIn]; done) | decide +kernel
set_option maxRecDepth 65536 in
set_option maxHeartbeats 40000000 in
theorem cp3_1 (l : Launch) (Z : State) (a0 : Array Value) (hw : ∀ d ∈ tables_1, d.before a0 Z = true) (n0 : Nat) (h : Heap) (O : Old Z n0 h) (s_DEF : Addr) (s_EL : Addr) (s_EA : Addr) (s_EM : Addr) (cs : Int32) (mr : Addr) (H : En Z s_DEF s_EL s_EA s_EM cs mr) (ed : Addr) (kE : ClassId) (x0 : Addr) (Ex0 : Exa Z h x0 "com/example/plumbline/plumbline/Band") (A1 : Arv Z h ed kE (.object "java/lang/Object") (10 : Int32) [(.ref x0), .null, .null, .null, .null, .null, .null, .null, .null, .null] .null) : Con l Z (⟨"java/util/Arrays", "copyOf", "([Ljava/lang/Object;ILjava/lang/Class;)[Ljava/lang/Object;"⟩ : MethodName) jdk_65_method_120_code 4 (some (.array (.object "java/lang/Object"))) ({ frames := 1, cells := 1, slots := 1, locals := 18 } : Room) #[(.ref ed), (.int (1 : Int32)), (.ref mr)] h n0 (fun v h' => ∃ g kG, v = some (.ref g) ∧ h.size ≤ g ∧ Keep h h' [] ∧ Exa Z h' g "[Ljava/lang/Object;" ∧ Arv Z h' g kG (.object "java/lang/Object") (1 : Int32) [(.ref x0)] .null) := by
  refine Con.mk (Ls := #[.val (.ref ed), .val (.int (1 : Int32)), .val (.ref mr), .unset]) (plainFor_of_name pn_11) (fun m => by first | (simp [entryFrame, mkF, argsToLocals, Value.category]; done) | rfl) (fun w C => ?_)
  replace C : Cx w l Z "java/util/Arrays" jdk_65_method_120_code 4 (some (.array (.object "java/lang/Object"))) "copyOf" ({ frames := 1, cells := 1, slots := 1, locals := 18 } : Room) n0 := C
  obtain ⟨S_DEF, E_DEF, V_DEF, S_EL, E_EL, F_EL, V_EA, S_EM, E_EM, S_CS, hcs, MIR⟩ := id H
  obtain ⟨kD, V_DEF⟩ := V_DEF
  obtain ⟨kEA, V_EA⟩ := V_EA
  refine g_aloadN C (pc' := 1) d23_0 rfl rfl rfl ?_
  refine g_ldcMirror C (pc' := 3) (wd hw 170 rfl) MIR d23_1 rfl ?_
  refine g_acmp C (pc' := 6) (same := true) d23_3 rfl rfl rfl (decide_eq_true rfl) (by decide) (by decide) ?_
  refine g_iloadN C (pc' := 7) d23_6 rfl rfl ?_
  refine g_newRE C (pc' := 10) (k' := 1) (n' := 1) (cap := 1) (ad := "[Ljava/lang/Object;") (wd hw 171 rfl) (wd hw 111 rfl) (by decide) d23_7 rfl (by decide) (by decide) (by decide) (by decide) (by decide) rfl rfl rfl (fun h398 b399 kA400 ex401 E402 A403 B405 Ov404 => ?_)
  have ne_ed_b399 : ed ≠ b399 := Nat.ne_of_lt (by rw [ex401]; exact A1.lt)
  have ne_x0_b399 : x0 ≠ b399 := Nat.ne_of_lt (by rw [ex401]; exact Ex0.lt)
  have ge_b399 : n0 ≤ b399 := by rw [ex401]; exact O.1 ▸ O.2.1
  have sz_b399 : h.size ≤ b399 := by rw [ex401]; exact (Keep.refl h []).1
  have f406 := O.ext E402
  have f407 := (Keep.refl h []).ext E402
  have f408 := A1.ext E402
  have f409 := Ex0.ext E402
  have A410 : Arv Z h398 b399 kA400 (.object "java/lang/Object") (1 : Int32) [.null] .null := A403.pad (pad_rep [] .null 1)
  refine g_goto C (pc' := 24) d23_10 (by decide) rfl ?_
  refine g_astoreN C (pc' := 25) (Ls' := #[.val (.ref ed), .val (.int (1 : Int32)), .val (.ref mr), .val (.ref b399)]) d23_24 rfl rfl rfl rfl ?_
  refine g_aloadN C (pc' := 26) d23_25 rfl rfl rfl ?_
  refine g_iconst C (pc' := 27) (v := (0 : Int32)) d23_26 (by decide) rfl ?_
  refine g_aloadN C (pc' := 28) d23_27 rfl rfl rfl ?_
  refine g_iconst C (pc' := 29) (v := (0 : Int32)) d23_28 (by decide) rfl ?_
  refine g_aloadN C (pc' := 30) d23_29 rfl rfl rfl ?_
  refine g_alen C (pc' := 31) d23_30 rfl f408 rfl ?_
  refine g_iloadN C (pc' := 32) d23_31 rfl rfl ?_
  refine g_callS C (pc' := 35) (k' := 1) (n' := 1) (argsL := [(.int (10 : Int32)), (.int (1 : Int32))]) (rest := [(.int (0 : Int32)), (.ref b399), (.int (0 : Int32)), (.ref ed)]) (wd hw 172 rfl) (wd hw 173 rfl) (wd hw 108 rfl) (wd hw 174 rfl) (by decide) d23_32 pd_11 rfl rfl rfl (min_10_1 l Z a0 hw n0 h398 f406 s_DEF s_EL s_EA s_EM cs mr H) (Nat.le_of_ble_eq_true rfl) (Nat.le_of_ble_eq_true rfl) (Nat.le_of_ble_eq_true rfl) (Nat.le_of_ble_eq_true rfl) rfl rfl rfl (fun v412 h411 q413 => ?_)
  obtain ⟨rfl, eh411⟩ := q413
  subst h411
  show G w _ h398 1 1 35 #[.val (.ref ed), .val (.int (1 : Int32)), .val (.ref mr), .val (.ref b399)] [(.int (1 : Int32)), (.int (0 : Int32)), (.ref b399), (.int (0 : Int32)), (.ref ed)]
  refine g_cpA C (pc' := 38) (us := [(.ref x0)]) (wd hw 175 rfl) (wd hw 178 rfl) (wd hw 176 rfl) (wd hw 177 rfl) d23_35 rfl rfl f408 A410 (Or.inr ⟨rfl, rfl, ⟨stoR A410 Ov404 (Ins.of_exa f409 (wd hw 112 rfl)), trivial⟩⟩) (by decide) (by decide) (by decide) (Nat.le_of_ble_eq_true rfl) (Nat.le_of_ble_eq_true rfl) rfl (Nat.le_of_ble_eq_true rfl) ge_b399 (Nat.le_of_ble_eq_true rfl) (Nat.le_of_ble_eq_true rfl) rfl (fun h414 K415 A416 => ?_)
  have f417 := f406.keep K415 (allS ge_b399 all0)
  have f418 := f407.trans K415 (allS (Or.inr sz_b399) all0)
  have f419 := f408.keep K415 (ninS ne_ed_b399 nin0)
  have f420 := f409.keep K415
  have f421 := B405.keep K415
  have A422 : Arv Z h414 b399 kA400 (.object "java/lang/Object") (1 : Int32) [(.ref x0)] .null := A416
  refine g_aloadN C (pc' := 39) d23_38 rfl rfl rfl ?_
  exact g_areturn C d23_39 rfl rfl rfl rfl (Nat.le_of_ble_eq_true rfl) (Nat.le_of_ble_eq_true rfl) (⟨b399, kA400, rfl, sz_b399, f418, f421, A422⟩)
theorem d22_0 : decode jdk_65_method_119_code 0 = .ok (.aload_n 0, 1) := by decide +kernel
theorem d22_1 : decode jdk_65_method_119_code 1 = .ok (.iload_n 1, 1) := by decide +kernel
theorem d22_2 : decode jdk_65_method_119_code 2 = .ok (.aload_n 0, 1) := by decide +kernel
theorem d22_3 : decode jdk_65_method_119_code 3 = .ok (.invokevirtual 86, 3) := by decide +kernel
theorem d22_6 : decode jdk_65_method_119_code 6 = .ok (.invokestatic 300, 3) := by decide +kernel
theorem pd_18 : parseMethodDescriptor "([Ljava/lang/Object;ILjava/lang/Class;)[Ljava/lang/Object;" = some ⟨[(.array (.object "java/lang/Object")), .int, (.object "java/lang/Class")], some (.array (.object "java/lang/Object"))⟩ := by decide +kernel
theorem d22_9 : decode jdk_65_method_119_code 9 = .ok (.areturn, 1) := by decide +kernel
set_option maxRecDepth 65536 in
set_option maxHeartbeats 40000000 in
theorem cp2_1 (l : Launch) (Z : State) (a0 : Array Value) (hw : ∀ d ∈ tables_1, d.before a0 Z = true) (n0 : Nat) (h : Heap) (O : Old Z n0 h) (s_DEF : Addr) (s_EL : Addr) (s_EA : Addr) (s_EM : Addr) (cs : Int32) (mr : Addr) (H : En Z s_DEF s_EL s_EA s_EM cs mr) (ed : Addr) (kE : ClassId) (x0 : Addr) (Ex0 : Exa Z h x0 "com/example/plumbline/plumbline/Band") (Ee : Exa Z h ed "[Ljava/lang/Object;") (A1 : Arv Z h ed kE (.object "java/lang/Object") (10 : Int32) [(.ref x0), .null, .null, .null, .null, .null, .null, .null, .null, .null] .null) : Con l Z (⟨"java/util/Arrays", "copyOf", "([Ljava/lang/Object;I)[Ljava/lang/Object;"⟩ : MethodName) jdk_65_method_119_code 2 (some (.array (.object "java/lang/Object"))) ({ frames := 2, cells := 1, slots := 1, locals := 33 } : Room) #[(.ref ed), (.int (1 : Int32))] h n0 (fun v h' => ∃ g kG, v = some (.ref g) ∧ h.size ≤ g ∧ Keep h h' [] ∧ Exa Z h' g "[Ljava/lang/Object;" ∧ Arv Z h' g kG (.object "java/lang/Object") (1 : Int32) [(.ref x0)] .null) := by
  refine Con.mk (Ls := #[.val (.ref ed), .val (.int (1 : Int32))]) (plainFor_of_name pn_11) (fun m => by first | (simp [entryFrame, mkF, argsToLocals, Value.category]; done) | rfl) (fun w C => ?_)
  replace C : Cx w l Z "java/util/Arrays" jdk_65_method_119_code 2 (some (.array (.object "java/lang/Object"))) "copyOf" ({ frames := 2, cells := 1, slots := 1, locals := 33 } : Room) n0 := C
  obtain ⟨S_DEF, E_DEF, V_DEF, S_EL, E_EL, F_EL, V_EA, S_EM, E_EM, S_CS, hcs, MIR⟩ := id H
  obtain ⟨kD, V_DEF⟩ := V_DEF
  obtain ⟨kEA, V_EA⟩ := V_EA
  refine g_aloadN C (pc' := 1) d22_0 rfl rfl rfl ?_
  refine g_iloadN C (pc' := 2) d22_1 rfl rfl ?_
  refine g_aloadN C (pc' := 3) d22_2 rfl rfl rfl ?_
  refine g_getClass C (pc' := 6) (wd hw 161 rfl) (wd hw 162 rfl) (wd hw 132 rfl) (wd hw 164 rfl) (wd hw 163 rfl) (wd hw 165 rfl) d22_3 rfl rfl Ee MIR (Nat.le_of_ble_eq_true rfl) (Nat.le_of_ble_eq_true rfl) rfl ?_
  refine g_callS C (pc' := 9) (k' := 1) (n' := 1) (argsL := [(.ref ed), (.int (1 : Int32)), (.ref mr)]) (rest := []) (wd hw 167 rfl) (wd hw 168 rfl) (wd hw 159 rfl) (wd hw 169 rfl) (by decide) d22_6 pd_18 rfl rfl rfl (cp3_1 l Z a0 hw n0 h O s_DEF s_EL s_EA s_EM cs mr H ed kE x0 Ex0 A1) (Nat.le_of_ble_eq_true rfl) (Nat.le_of_ble_eq_true rfl) (Nat.le_of_ble_eq_true rfl) (Nat.le_of_ble_eq_true rfl) rfl rfl rfl (fun v424 h423 q425 => ?_)
  obtain ⟨g, kG, rfl, q1, q2, q3, q4⟩ := q425
  show G w _ h423 1 1 9 #[.val (.ref ed), .val (.int (1 : Int32))] [(.ref g)]
  exact g_areturn C d22_9 rfl rfl rfl rfl (Nat.le_of_ble_eq_true rfl) (Nat.le_of_ble_eq_true rfl) (⟨g, kG, rfl, q1, q2, q3, q4⟩)
theorem d21_0 : decode jdk_38_method_16_code 0 = .ok (.aload_n 0, 1) := by decide +kernel
theorem d21_1 : decode jdk_38_method_16_code 1 = .ok (.getfield 9, 3) := by decide +kernel
theorem d21_4 : decode jdk_38_method_16_code 4 = .ok (.aload_n 0, 1) := by decide +kernel
theorem d21_5 : decode jdk_38_method_16_code 5 = .ok (.getfield 48, 3) := by decide +kernel
theorem d21_8 : decode jdk_38_method_16_code 8 = .ok (.invokestatic 66, 3) := by decide +kernel
theorem pd_16 : parseMethodDescriptor "([Ljava/lang/Object;I)[Ljava/lang/Object;" = some ⟨[(.array (.object "java/lang/Object")), .int], some (.array (.object "java/lang/Object"))⟩ := by decide +kernel
theorem d21_11 : decode jdk_38_method_16_code 11 = .ok (.areturn, 1) := by decide +kernel
set_option maxRecDepth 65536 in
set_option maxHeartbeats 40000000 in
theorem toA_1 (l : Launch) (Z : State) (a0 : Array Value) (hw : ∀ d ∈ tables_1, d.before a0 Z = true) (n0 : Nat) (h : Heap) (O : Old Z n0 h) (s_DEF : Addr) (s_EL : Addr) (s_EA : Addr) (s_EM : Addr) (cs : Int32) (mr : Addr) (H : En Z s_DEF s_EL s_EA s_EM cs mr) (a ed : Addr) (kE : ClassId) (mc : Int32) (x0 : Addr) (Ex0 : Exa Z h x0 "com/example/plumbline/plumbline/Band") (P : AL1 Z n0 h a ed kE mc (1 : Int32) [(.ref x0), .null, .null, .null, .null, .null, .null, .null, .null, .null]) : Con l Z (⟨"java/util/ArrayList", "toArray", "()[Ljava/lang/Object;"⟩ : MethodName) jdk_38_method_16_code 1 (some (.array (.object "java/lang/Object"))) ({ frames := 3, cells := 1, slots := 1, locals := 46 } : Room) #[(.ref a)] h n0 (fun v h' => ∃ g kG, v = some (.ref g) ∧ h.size ≤ g ∧ Keep h h' [] ∧ Exa Z h' g "[Ljava/lang/Object;" ∧ Arv Z h' g kG (.object "java/lang/Object") (1 : Int32) [(.ref x0)] .null) := by
  refine Con.mk (Ls := #[.val (.ref a)]) (plainFor_of_name pn_10) (fun m => by first | (simp [entryFrame, mkF, argsToLocals, Value.category]; done) | rfl) (fun w C => ?_)
  replace C : Cx w l Z "java/util/ArrayList" jdk_38_method_16_code 1 (some (.array (.object "java/lang/Object"))) "toArray" ({ frames := 3, cells := 1, slots := 1, locals := 46 } : Room) n0 := C
  obtain ⟨S_DEF, E_DEF, V_DEF, S_EL, E_EL, F_EL, V_EA, S_EM, E_EM, S_CS, hcs, MIR⟩ := id H
  obtain ⟨kD, V_DEF⟩ := V_DEF
  obtain ⟨kEA, V_EA⟩ := V_EA
  obtain ⟨ga, ge, nae, Ov, E0, Ee, F1, F2, F3, A1⟩ := P
  refine g_aloadN C (pc' := 1) d21_0 rfl rfl rfl ?_
  refine g_getF C (pc' := 4) (wd hw 76 rfl) Via.refl d21_1 rfl F2 rfl ?_
  refine g_aloadN C (pc' := 5) d21_4 rfl rfl rfl ?_
  refine g_getF C (pc' := 8) (wd hw 89 rfl) Via.refl d21_5 rfl F3 rfl ?_
  refine g_callS C (pc' := 11) (k' := 1) (n' := 1) (argsL := [(.ref ed), (.int (1 : Int32))]) (rest := []) (wd hw 157 rfl) (wd hw 158 rfl) (wd hw 159 rfl) (wd hw 160 rfl) (by decide) d21_8 pd_16 rfl rfl rfl (cp2_1 l Z a0 hw n0 h O s_DEF s_EL s_EA s_EM cs mr H ed kE x0 Ex0 Ee A1) (Nat.le_of_ble_eq_true rfl) (Nat.le_of_ble_eq_true rfl) (Nat.le_of_ble_eq_true rfl) (Nat.le_of_ble_eq_true rfl) rfl rfl rfl (fun v427 h426 q428 => ?_)
  obtain ⟨g, kG, rfl, q1, q2, q3, q4⟩ := q428
  show G w _ h426 1 1 11 #[.val (.ref a)] [(.ref g)]
  exact g_areturn C d21_11 rfl rfl rfl rfl (Nat.le_of_ble_eq_true rfl) (Nat.le_of_ble_eq_true rfl) (⟨g, kG, rfl, q1, q2, q3, q4⟩)
theorem d25_0 : decode jdk_40_method_47_code 0 = .ok (.aload_n 0, 1) := by decide +kernel
theorem d25_1 : decode jdk_40_method_47_code 1 = .ok (.arraylength, 1) := by decide +kernel
theorem d25_2 : decode jdk_40_method_47_code 2 = .ok (.tableswitch 57 0 2 #[26, 32, 43], 26) := by decide +kernel
theorem d25_34 : decode jdk_40_method_47_code 34 = .ok (.new 96, 3) := by decide +kernel
theorem d25_37 : decode jdk_40_method_47_code 37 = .ok (.dup, 1) := by decide +kernel
theorem d25_38 : decode jdk_40_method_47_code 38 = .ok (.aload_n 0, 1) := by decide +kernel
theorem d25_39 : decode jdk_40_method_47_code 39 = .ok (.iconst 0, 1) := by decide +kernel
theorem d25_40 : decode jdk_40_method_47_code 40 = .ok (.aaload, 1) := by decide +kernel
theorem d25_41 : decode jdk_40_method_47_code 41 = .ok (.invokespecial 98, 3) := by decide +kernel
theorem pd_23 : parseMethodDescriptor "(Ljava/lang/Object;)V" = some ⟨[(.object "java/lang/Object")], none⟩ := by decide +kernel
theorem d25_44 : decode jdk_40_method_47_code 44 = .ok (.areturn, 1) := by decide +kernel
set_option maxRecDepth 65536 in
set_option maxHeartbeats 40000000 in
theorem lofA_1 (l : Launch) (Z : State) (a0 : Array Value) (hw : ∀ d ∈ tables_1, d.before a0 Z = true) (n0 : Nat) (h : Heap) (O : Old Z n0 h) (s_DEF : Addr) (s_EL : Addr) (s_EA : Addr) (s_EM : Addr) (cs : Int32) (mr : Addr) (H : En Z s_DEF s_EL s_EA s_EM cs mr) (g : Addr) (kG : ClassId) (x0 : Addr) (Ex0 : Exa Z h x0 "com/example/plumbline/plumbline/Band") (A1 : Arv Z h g kG (.object "java/lang/Object") (1 : Int32) [(.ref x0)] .null) : Con l Z (⟨"java/util/List", "of", "([Ljava/lang/Object;)Ljava/util/List;"⟩ : MethodName) jdk_40_method_47_code 2 (some (.object "java/util/List")) ({ frames := 5, cells := 1, slots := 2, locals := 62 } : Room) #[(.ref g)] h n0 (fun v h' => ∃ L, v = some (.ref L) ∧ h.size ≤ L ∧ Keep h h' [] ∧ Exa Z h' L "java/util/ImmutableCollections$List12") := by
  refine Con.mk (Ls := #[.val (.ref g), .unset]) (plainFor_of_name pn_17) (fun m => by first | (simp [entryFrame, mkF, argsToLocals, Value.category]; done) | rfl) (fun w C => ?_)
  replace C : Cx w l Z "java/util/List" jdk_40_method_47_code 2 (some (.object "java/util/List")) "of" ({ frames := 5, cells := 1, slots := 2, locals := 62 } : Room) n0 := C
  obtain ⟨S_DEF, E_DEF, V_DEF, S_EL, E_EL, F_EL, V_EA, S_EM, E_EM, S_CS, hcs, MIR⟩ := id H
  obtain ⟨kD, V_DEF⟩ := V_DEF
  obtain ⟨kEA, V_EA⟩ := V_EA
  refine g_aloadN C (pc' := 1) d25_0 rfl rfl rfl ?_
  refine g_alen C (pc' := 2) d25_1 rfl A1 rfl ?_
  refine g_tsw C (pc' := 34) d25_2 rfl (by decide) rfl (by decide) rfl ?_
  refine g_new C (pc' := 37) (k' := 1) (n' := 2) (wd hw 230 rfl) (wd hw 231 rfl) (wd hw 232 rfl) d25_34 (by decide) (by decide) rfl rfl rfl (fun h429 b430 ex431 E432 A433 D434 => ?_)
  have ne_g_b430 : g ≠ b430 := Nat.ne_of_lt (by rw [ex431]; exact A1.lt)
  have ne_x0_b430 : x0 ≠ b430 := Nat.ne_of_lt (by rw [ex431]; exact Ex0.lt)
  have ge_b430 : n0 ≤ b430 := by rw [ex431]; exact O.1 ▸ O.2.1
  have sz_b430 : h.size ≤ b430 := by rw [ex431]; exact (Keep.refl h []).1
  have f435 := O.ext E432
  have f436 := (Keep.refl h []).ext E432
  have f437 := A1.ext E432
  have f438 := Ex0.ext E432
  have F_e0_b430 : Fld Z h429 b430 "java/util/ImmutableCollections$List12" "e0" "Ljava/lang/Object;" .null := D434 (Or.inr (wd hw 243 rfl)) (ty := (.object "java/lang/Object")) (by decide)
  have F_e1_b430 : Fld Z h429 b430 "java/util/ImmutableCollections$List12" "e1" "Ljava/lang/Object;" .null := D434 (Or.inr (wd hw 246 rfl)) (ty := (.object "java/lang/Object")) (by decide)
  refine g_dup C (pc' := 38) d25_37 rfl rfl rfl ?_
  refine g_aloadN C (pc' := 39) d25_38 rfl rfl rfl ?_
  refine g_iconst C (pc' := 40) (v := (0 : Int32)) d25_39 (by decide) rfl ?_
  refine g_aaload C (pc' := 41) (x := (.ref x0)) d25_40 rfl f437 rfl (by decide) (by decide) rfl rfl ?_
  refine g_special C (pc' := 44) (k' := 1) (n' := 2) (argsL := [(.ref x0)]) (rest := [(.ref b430)]) (wd hw 233 rfl) (wd hw 234 rfl) (wd hw 232 rfl) (wd hw 236 rfl) (by decide) rfl d25_41 pd_23 rfl rfl rfl (l12_1 l Z a0 hw n0 h429 f435 s_DEF s_EL s_EA s_EM cs mr H b430 x0 ge_b430 A433 F_e0_b430 F_e1_b430) (Nat.le_of_ble_eq_true rfl) (Nat.le_of_ble_eq_true rfl) (Nat.le_of_ble_eq_true rfl) (Nat.le_of_ble_eq_true rfl) rfl rfl rfl (fun v440 h439 q441 => ?_)
  obtain ⟨rfl, k1⟩ := q441
  have f442 := f435.keep k1 (allS ge_b430 all0)
  have f443 := f436.trans k1 (allS (Or.inr sz_b430) all0)
  have f444 := f437.keep k1 (ninS ne_g_b430 nin0)
  have f445 := f438.keep k1
  have f446 := A433.keep k1
  show G w _ h439 1 2 44 #[.val (.ref g), .unset] [(.ref b430)]
  exact g_areturn C d25_44 rfl rfl rfl rfl (Nat.le_of_ble_eq_true rfl) (Nat.le_of_ble_eq_true rfl) (⟨b430, rfl, sz_b430, f443, f446⟩)
theorem d18_44 : decode jdk_56_method_3_code 44 = .ok (.aload_n 0, 1) := by decide +kernel
theorem d18_45 : decode jdk_56_method_3_code 45 = .ok (.invokeinterface 30 1, 5) := by decide +kernel
theorem d18_50 : decode jdk_56_method_3_code 50 = .ok (.invokestatic 34, 3) := by decide +kernel
theorem pd_20 : parseMethodDescriptor "([Ljava/lang/Object;)Ljava/util/List;" = some ⟨[(.array (.object "java/lang/Object"))], some (.object "java/util/List")⟩ := by decide +kernel
theorem d18_53 : decode jdk_56_method_3_code 53 = .ok (.areturn, 1) := by decide +kernel
set_option maxRecDepth 65536 in
set_option maxHeartbeats 40000000 in
theorem lcp_1 (l : Launch) (Z : State) (a0 : Array Value) (hw : ∀ d ∈ tables_1, d.before a0 Z = true) (n0 : Nat) (h : Heap) (O : Old Z n0 h) (s_DEF : Addr) (s_EL : Addr) (s_EA : Addr) (s_EM : Addr) (cs : Int32) (mr : Addr) (H : En Z s_DEF s_EL s_EA s_EM cs mr) (a ed : Addr) (kE : ClassId) (mc : Int32) (x0 : Addr) (Ex0 : Exa Z h x0 "com/example/plumbline/plumbline/Band") (P : AL1 Z n0 h a ed kE mc (1 : Int32) [(.ref x0), .null, .null, .null, .null, .null, .null, .null, .null, .null]) : Con l Z (⟨"java/util/ImmutableCollections", "listCopy", "(Ljava/util/Collection;)Ljava/util/List;"⟩ : MethodName) jdk_56_method_3_code 2 (some (.object "java/util/List")) ({ frames := 6, cells := 2, slots := 3, locals := 75 } : Room) #[(.ref a)] h n0 (fun v h' => ∃ L, v = some (.ref L) ∧ h.size ≤ L ∧ Keep h h' [] ∧ Exa Z h' L "java/util/ImmutableCollections$List12") := by
  refine Con.mk (Ls := #[.val (.ref a), .unset]) (plainFor_of_name pn_12) (fun m => by first | (simp [entryFrame, mkF, argsToLocals, Value.category]; done) | rfl) (fun w C => ?_)
  replace C : Cx w l Z "java/util/ImmutableCollections" jdk_56_method_3_code 2 (some (.object "java/util/List")) "listCopy" ({ frames := 6, cells := 2, slots := 3, locals := 75 } : Room) n0 := C
  obtain ⟨S_DEF, E_DEF, V_DEF, S_EL, E_EL, F_EL, V_EA, S_EM, E_EM, S_CS, hcs, MIR⟩ := id H
  obtain ⟨kD, V_DEF⟩ := V_DEF
  obtain ⟨kEA, V_EA⟩ := V_EA
  have P0 := P
  obtain ⟨ga, ge, nae, Ov, E0, Ee, F1, F2, F3, A1⟩ := P
  refine g_aloadN C (pc' := 1) d18_0 rfl rfl rfl ?_
  refine g_instN C (pc' := 4) (wd hw 128 rfl) d18_1 rfl E0 (ns_no (wd hw 129 rfl) (wd hw 231 rfl) (NS.step (wd hw 129 rfl) (NS.step (wd hw 130 rfl) (NS.step (wd hw 131 rfl) (ns_root (wd hw 132 rfl) (wd hw 231 rfl) (by decide)) (by decide)) (by decide)) (by decide)) (by decide)) rfl ?_
  refine g_ifN C (pc' := 7) d18_4 rfl (by decide) rfl ?_
  refine g_aloadN C (pc' := 8) d18_7 rfl rfl rfl ?_
  refine g_instN C (pc' := 11) (wd hw 133 rfl) d18_8 rfl E0 (ns_no (wd hw 129 rfl) (wd hw 190 rfl) (NS.step (wd hw 129 rfl) (NS.step (wd hw 130 rfl) (NS.step (wd hw 131 rfl) (ns_root (wd hw 132 rfl) (wd hw 190 rfl) (by decide)) (by decide)) (by decide)) (by decide)) (by decide)) rfl ?_
  refine g_ifY C (pc' := 31) d18_11 rfl (by decide) (by decide) rfl ?_
  refine g_aloadN C (pc' := 32) d18_31 rfl rfl rfl ?_
  refine g_interface C (pc' := 37) (k' := 0) (n' := 0) (argsL := []) (rest := []) (wd hw 134 rfl) (wd hw 135 rfl) (wd hw 136 rfl) rfl (wd hw 137 rfl) (wd hw 138 rfl) (wd hw 139 rfl) (wd hw 140 rfl) (wd hw 141 rfl) (wd hw 56 rfl) (wd hw 142 rfl) (by decide) d18_32 pd_14 rfl rfl rfl E0 (alEmp_1 l Z a0 hw n0 h O s_DEF s_EL s_EA s_EM cs mr H a ed kE mc x0 P0) (Nat.le_of_ble_eq_true rfl) (Nat.le_of_ble_eq_true rfl) (Nat.le_of_ble_eq_true rfl) (Nat.le_of_ble_eq_true rfl) rfl rfl rfl (fun v448 h447 q449 => ?_)
  obtain ⟨rfl, eh447⟩ := q449
  subst h447
  show G w _ h 0 0 37 #[.val (.ref a), .unset] [(.int (0 : Int32))]
  refine g_ifY C (pc' := 44) d18_37 rfl (by decide) (by decide) rfl ?_
  refine g_aloadN C (pc' := 45) d18_44 rfl rfl rfl ?_
  refine g_interface C (pc' := 50) (k' := 1) (n' := 1) (argsL := []) (rest := []) (wd hw 149 rfl) (wd hw 150 rfl) (wd hw 151 rfl) rfl (wd hw 152 rfl) (wd hw 153 rfl) (wd hw 154 rfl) (wd hw 155 rfl) (wd hw 141 rfl) (wd hw 56 rfl) (wd hw 156 rfl) (by decide) d18_45 pd_9 rfl rfl rfl E0 (toA_1 l Z a0 hw n0 h O s_DEF s_EL s_EA s_EM cs mr H a ed kE mc x0 Ex0 P0) (Nat.le_of_ble_eq_true rfl) (Nat.le_of_ble_eq_true rfl) (Nat.le_of_ble_eq_true rfl) (Nat.le_of_ble_eq_true rfl) rfl rfl rfl (fun v451 h450 q452 => ?_)
  obtain ⟨g, kG, rfl, q1, q2, q3, q4⟩ := q452
  have ne_a_g : a ≠ g := Nat.ne_of_lt (Nat.lt_of_lt_of_le E0.lt q1)
  have ne_ed_g : ed ≠ g := Nat.ne_of_lt (Nat.lt_of_lt_of_le Ee.lt q1)
  have ne_x0_g : x0 ≠ g := Nat.ne_of_lt (Nat.lt_of_lt_of_le Ex0.lt q1)
  have ge_g : n0 ≤ g := Nat.le_trans (O.1 ▸ O.2.1) q1
  have sz_g : h.size ≤ g := Nat.le_trans (Keep.refl h []).1 q1
  have f453 := O.keep q2 all0
  have f454 := (Keep.refl h []).trans q2 all0
  have f455 := E0.keep q2
  have f456 := F1.keep q2 nin0
  have f457 := F2.keep q2 nin0
  have f458 := F3.keep q2 nin0
  have f459 := Ee.keep q2
  have f460 := A1.keep q2 nin0
  have f461 := Ex0.keep q2
  show G w _ h450 1 1 50 #[.val (.ref a), .unset] [(.ref g)]
  refine g_callS C (pc' := 53) (k' := 2) (n' := 3) (argsL := [(.ref g)]) (rest := []) (wd hw 179 rfl) (wd hw 180 rfl) (wd hw 122 rfl) (wd hw 181 rfl) (by decide) d18_50 pd_20 rfl rfl rfl (lofA_1 l Z a0 hw n0 h450 f453 s_DEF s_EL s_EA s_EM cs mr H g kG x0 f461 q4) (Nat.le_of_ble_eq_true rfl) (Nat.le_of_ble_eq_true rfl) (Nat.le_of_ble_eq_true rfl) (Nat.le_of_ble_eq_true rfl) rfl rfl rfl (fun v463 h462 q464 => ?_)
  obtain ⟨L, rfl, r1, r2, r3⟩ := q464
  have u1 := Nat.le_trans q2.1 r1
  have f465 := f453.keep r2 all0
  have f466 := f454.trans r2 all0
  have f467 := f455.keep r2
  have f468 := f456.keep r2 nin0
  have f469 := f457.keep r2 nin0
  have f470 := f458.keep r2 nin0
  have f471 := f459.keep r2
  have f472 := f460.keep r2 nin0
  have f473 := f461.keep r2
  have f474 := q4.keep r2 nin0
  show G w _ h462 2 3 53 #[.val (.ref a), .unset] [(.ref L)]
  exact g_areturn C d18_53 rfl rfl rfl rfl (Nat.le_of_ble_eq_true rfl) (Nat.le_of_ble_eq_true rfl) (⟨L, rfl, u1, f466, r3⟩)
set_option maxRecDepth 65536 in
set_option maxHeartbeats 40000000 in
theorem cpo_1 (l : Launch) (Z : State) (a0 : Array Value) (hw : ∀ d ∈ tables_1, d.before a0 Z = true) (n0 : Nat) (h : Heap) (O : Old Z n0 h) (s_DEF : Addr) (s_EL : Addr) (s_EA : Addr) (s_EM : Addr) (cs : Int32) (mr : Addr) (H : En Z s_DEF s_EL s_EA s_EM cs mr) (a ed : Addr) (kE : ClassId) (mc : Int32) (x0 : Addr) (Ex0 : Exa Z h x0 "com/example/plumbline/plumbline/Band") (P : AL1 Z n0 h a ed kE mc (1 : Int32) [(.ref x0), .null, .null, .null, .null, .null, .null, .null, .null, .null]) : Con l Z (⟨"java/util/List", "copyOf", "(Ljava/util/Collection;)Ljava/util/List;"⟩ : MethodName) jdk_40_method_48_code 1 (some (.object "java/util/List")) ({ frames := 7, cells := 2, slots := 3, locals := 88 } : Room) #[(.ref a)] h n0 (fun v h' => ∃ L, v = some (.ref L) ∧ h.size ≤ L ∧ Keep h h' [] ∧ Exa Z h' L "java/util/ImmutableCollections$List12") := by
  refine Con.mk (Ls := #[.val (.ref a)]) (plainFor_of_name pn_17) (fun m => by first | (simp [entryFrame, mkF, argsToLocals, Value.category]; done) | rfl) (fun w C => ?_)
  replace C : Cx w l Z "java/util/List" jdk_40_method_48_code 1 (some (.object "java/util/List")) "copyOf" ({ frames := 7, cells := 2, slots := 3, locals := 88 } : Room) n0 := C
  obtain ⟨S_DEF, E_DEF, V_DEF, S_EL, E_EL, F_EL, V_EA, S_EM, E_EM, S_CS, hcs, MIR⟩ := id H
  obtain ⟨kD, V_DEF⟩ := V_DEF
  obtain ⟨kEA, V_EA⟩ := V_EA
  refine g_aloadN C (pc' := 1) d17_0 rfl rfl rfl ?_
  refine g_callS C (pc' := 4) (k' := 2) (n' := 3) (argsL := [(.ref a)]) (rest := []) (wd hw 124 rfl) (wd hw 125 rfl) (wd hw 126 rfl) (wd hw 127 rfl) (by decide) d17_1 pd_13 rfl rfl rfl (lcp_1 l Z a0 hw n0 h O s_DEF s_EL s_EA s_EM cs mr H a ed kE mc x0 Ex0 P) (Nat.le_of_ble_eq_true rfl) (Nat.le_of_ble_eq_true rfl) (Nat.le_of_ble_eq_true rfl) (Nat.le_of_ble_eq_true rfl) rfl rfl rfl (fun v476 h475 q477 => ?_)
  obtain ⟨L, rfl, q1, q2, q3⟩ := q477
  show G w _ h475 2 3 4 #[.val (.ref a)] [(.ref L)]
  exact g_areturn C d17_4 rfl rfl rfl rfl (Nat.le_of_ble_eq_true rfl) (Nat.le_of_ble_eq_true rfl) (⟨L, rfl, q1, q2, q3⟩)
set_option maxRecDepth 65536 in
set_option maxHeartbeats 40000000 in
theorem min_10_2 (l : Launch) (Z : State) (a0 : Array Value) (hw : ∀ d ∈ tables_1, d.before a0 Z = true) (n0 : Nat) (h : Heap) (O : Old Z n0 h) (s_DEF : Addr) (s_EL : Addr) (s_EA : Addr) (s_EM : Addr) (cs : Int32) (mr : Addr) (H : En Z s_DEF s_EL s_EA s_EM cs mr) : Con l Z (⟨"java/lang/Math", "min", "(II)I"⟩ : MethodName) jdk_29_method_69_code 2 (some .int) ({ frames := 0, cells := 0, slots := 0, locals := 0 } : Room) #[(.int (10 : Int32)), (.int (2 : Int32))] h n0 (fun v h' => v = some (.int (2 : Int32)) ∧ h' = h) := by
  refine Con.mk (Ls := #[.val (.int (10 : Int32)), .val (.int (2 : Int32))]) (Jvm.Free.JP.mathPlain rfl (by decide +kernel)) (fun m => by first | (simp [entryFrame, mkF, argsToLocals, Value.category]; done) | rfl) (fun w C => ?_)
  replace C : Cx w l Z "java/lang/Math" jdk_29_method_69_code 2 (some .int) "min" ({ frames := 0, cells := 0, slots := 0, locals := 0 } : Room) n0 := C
  obtain ⟨S_DEF, E_DEF, V_DEF, S_EL, E_EL, F_EL, V_EA, S_EM, E_EM, S_CS, hcs, MIR⟩ := id H
  refine g_iloadN C (pc' := 1) d24_0 rfl rfl ?_
  refine g_iloadN C (pc' := 2) d24_1 rfl rfl ?_
  refine g_icY C (pc' := 9) d24_2 rfl (by decide) (by decide) rfl ?_
  refine g_iloadN C (pc' := 10) d24_9 rfl rfl ?_
  exact g_ireturn C d24_10 rfl (Nat.le_of_ble_eq_true rfl) (Nat.le_of_ble_eq_true rfl) (⟨rfl, rfl⟩)
set_option maxRecDepth 65536 in
set_option maxHeartbeats 40000000 in
theorem cp3_2 (l : Launch) (Z : State) (a0 : Array Value) (hw : ∀ d ∈ tables_1, d.before a0 Z = true) (n0 : Nat) (h : Heap) (O : Old Z n0 h) (s_DEF : Addr) (s_EL : Addr) (s_EA : Addr) (s_EM : Addr) (cs : Int32) (mr : Addr) (H : En Z s_DEF s_EL s_EA s_EM cs mr) (ed : Addr) (kE : ClassId) (x0 x1 : Addr) (Ex0 : Exa Z h x0 "com/example/plumbline/plumbline/Band") (Ex1 : Exa Z h x1 "com/example/plumbline/plumbline/Band") (A1 : Arv Z h ed kE (.object "java/lang/Object") (10 : Int32) [(.ref x0), (.ref x1), .null, .null, .null, .null, .null, .null, .null, .null] .null) : Con l Z (⟨"java/util/Arrays", "copyOf", "([Ljava/lang/Object;ILjava/lang/Class;)[Ljava/lang/Object;"⟩ : MethodName) jdk_65_method_120_code 4 (some (.array (.object "java/lang/Object"))) ({ frames := 1, cells := 1, slots := 2, locals := 18 } : Room) #[(.ref ed), (.int (2 : Int32)), (.ref mr)] h n0 (fun v h' => ∃ g kG, v = some (.ref g) ∧ h.size ≤ g ∧ Keep h h' [] ∧ Exa Z h' g "[Ljava/lang/Object;" ∧ Arv Z h' g kG (.object "java/lang/Object") (2 : Int32) [(.ref x0), (.ref x1)] .null) := by
  refine Con.mk (Ls := #[.val (.ref ed), .val (.int (2 : Int32)), .val (.ref mr), .unset]) (plainFor_of_name pn_11) (fun m => by first | (simp [entryFrame, mkF, argsToLocals, Value.category]; done) | rfl) (fun w C => ?_)
  replace C : Cx w l Z "java/util/Arrays" jdk_65_method_120_code 4 (some (.array (.object "java/lang/Object"))) "copyOf" ({ frames := 1, cells := 1, slots := 2, locals := 18 } : Room) n0 := C
  obtain ⟨S_DEF, E_DEF, V_DEF, S_EL, E_EL, F_EL, V_EA, S_EM, E_EM, S_CS, hcs, MIR⟩ := id H
  obtain ⟨kD, V_DEF⟩ := V_DEF
  obtain ⟨kEA, V_EA⟩ := V_EA
  refine g_aloadN C (pc' := 1) d23_0 rfl rfl rfl ?_
  refine g_ldcMirror C (pc' := 3) (wd hw 170 rfl) MIR d23_1 rfl ?_
  refine g_acmp C (pc' := 6) (same := true) d23_3 rfl rfl rfl (decide_eq_true rfl) (by decide) (by decide) ?_
  refine g_iloadN C (pc' := 7) d23_6 rfl rfl ?_
  refine g_newRE C (pc' := 10) (k' := 1) (n' := 2) (cap := 2) (ad := "[Ljava/lang/Object;") (wd hw 171 rfl) (wd hw 111 rfl) (by decide) d23_7 rfl (by decide) (by decide) (by decide) (by decide) (by decide) rfl rfl rfl (fun h478 b479 kA480 ex481 E482 A483 B485 Ov484 => ?_)
  have ne_ed_b479 : ed ≠ b479 := Nat.ne_of_lt (by rw [ex481]; exact A1.lt)
  have ne_x0_b479 : x0 ≠ b479 := Nat.ne_of_lt (by rw [ex481]; exact Ex0.lt)
  have ne_x1_b479 : x1 ≠ b479 := Nat.ne_of_lt (by rw [ex481]; exact Ex1.lt)
  have ge_b479 : n0 ≤ b479 := by rw [ex481]; exact O.1 ▸ O.2.1
  have sz_b479 : h.size ≤ b479 := by rw [ex481]; exact (Keep.refl h []).1
  have f486 := O.ext E482
  have f487 := (Keep.refl h []).ext E482
  have f488 := A1.ext E482
  have f489 := Ex0.ext E482
  have f490 := Ex1.ext E482
  have A491 : Arv Z h478 b479 kA480 (.object "java/lang/Object") (2 : Int32) [.null, .null] .null := A483.pad (pad_rep [] .null 2)
  refine g_goto C (pc' := 24) d23_10 (by decide) rfl ?_
  refine g_astoreN C (pc' := 25) (Ls' := #[.val (.ref ed), .val (.int (2 : Int32)), .val (.ref mr), .val (.ref b479)]) d23_24 rfl rfl rfl rfl ?_
  refine g_aloadN C (pc' := 26) d23_25 rfl rfl rfl ?_
  refine g_iconst C (pc' := 27) (v := (0 : Int32)) d23_26 (by decide) rfl ?_
  refine g_aloadN C (pc' := 28) d23_27 rfl rfl rfl ?_
  refine g_iconst C (pc' := 29) (v := (0 : Int32)) d23_28 (by decide) rfl ?_
  refine g_aloadN C (pc' := 30) d23_29 rfl rfl rfl ?_
  refine g_alen C (pc' := 31) d23_30 rfl f488 rfl ?_
  refine g_iloadN C (pc' := 32) d23_31 rfl rfl ?_
  refine g_callS C (pc' := 35) (k' := 1) (n' := 2) (argsL := [(.int (10 : Int32)), (.int (2 : Int32))]) (rest := [(.int (0 : Int32)), (.ref b479), (.int (0 : Int32)), (.ref ed)]) (wd hw 172 rfl) (wd hw 173 rfl) (wd hw 108 rfl) (wd hw 174 rfl) (by decide) d23_32 pd_11 rfl rfl rfl (min_10_2 l Z a0 hw n0 h478 f486 s_DEF s_EL s_EA s_EM cs mr H) (Nat.le_of_ble_eq_true rfl) (Nat.le_of_ble_eq_true rfl) (Nat.le_of_ble_eq_true rfl) (Nat.le_of_ble_eq_true rfl) rfl rfl rfl (fun v493 h492 q494 => ?_)
  obtain ⟨rfl, eh492⟩ := q494
  subst h492
  show G w _ h478 1 2 35 #[.val (.ref ed), .val (.int (2 : Int32)), .val (.ref mr), .val (.ref b479)] [(.int (2 : Int32)), (.int (0 : Int32)), (.ref b479), (.int (0 : Int32)), (.ref ed)]
  refine g_cpA C (pc' := 38) (us := [(.ref x0), (.ref x1)]) (wd hw 175 rfl) (wd hw 178 rfl) (wd hw 176 rfl) (wd hw 177 rfl) d23_35 rfl rfl f488 A491 (Or.inr ⟨rfl, rfl, ⟨stoR A491 Ov484 (Ins.of_exa f489 (wd hw 112 rfl)), ⟨stoR A491 Ov484 (Ins.of_exa f490 (wd hw 112 rfl)), trivial⟩⟩⟩) (by decide) (by decide) (by decide) (Nat.le_of_ble_eq_true rfl) (Nat.le_of_ble_eq_true rfl) rfl (Nat.le_of_ble_eq_true rfl) ge_b479 (Nat.le_of_ble_eq_true rfl) (Nat.le_of_ble_eq_true rfl) rfl (fun h495 K496 A497 => ?_)
  have f498 := f486.keep K496 (allS ge_b479 all0)
  have f499 := f487.trans K496 (allS (Or.inr sz_b479) all0)
  have f500 := f488.keep K496 (ninS ne_ed_b479 nin0)
  have f501 := f489.keep K496
  have f502 := f490.keep K496
  have f503 := B485.keep K496
  have A504 : Arv Z h495 b479 kA480 (.object "java/lang/Object") (2 : Int32) [(.ref x0), (.ref x1)] .null := A497
  refine g_aloadN C (pc' := 39) d23_38 rfl rfl rfl ?_
  exact g_areturn C d23_39 rfl rfl rfl rfl (Nat.le_of_ble_eq_true rfl) (Nat.le_of_ble_eq_true rfl) (⟨b479, kA480, rfl, sz_b479, f499, f503, A504⟩)
set_option maxRecDepth 65536 in
set_option maxHeartbeats 40000000 in
theorem cp2_2 (l : Launch) (Z : State) (a0 : Array Value) (hw : ∀ d ∈ tables_1, d.before a0 Z = true) (n0 : Nat) (h : Heap) (O : Old Z n0 h) (s_DEF : Addr) (s_EL : Addr) (s_EA : Addr) (s_EM : Addr) (cs : Int32) (mr : Addr) (H : En Z s_DEF s_EL s_EA s_EM cs mr) (ed : Addr) (kE : ClassId) (x0 x1 : Addr) (Ex0 : Exa Z h x0 "com/example/plumbline/plumbline/Band") (Ex1 : Exa Z h x1 "com/example/plumbline/plumbline/Band") (Ee : Exa Z h ed "[Ljava/lang/Object;") (A1 : Arv Z h ed kE (.object "java/lang/Object") (10 : Int32) [(.ref x0), (.ref x1), .null, .null, .null, .null, .null, .null, .null, .null] .null) : Con l Z (⟨"java/util/Arrays", "copyOf", "([Ljava/lang/Object;I)[Ljava/lang/Object;"⟩ : MethodName) jdk_65_method_119_code 2 (some (.array (.object "java/lang/Object"))) ({ frames := 2, cells := 1, slots := 2, locals := 33 } : Room) #[(.ref ed), (.int (2 : Int32))] h n0 (fun v h' => ∃ g kG, v = some (.ref g) ∧ h.size ≤ g ∧ Keep h h' [] ∧ Exa Z h' g "[Ljava/lang/Object;" ∧ Arv Z h' g kG (.object "java/lang/Object") (2 : Int32) [(.ref x0), (.ref x1)] .null) := by
  refine Con.mk (Ls := #[.val (.ref ed), .val (.int (2 : Int32))]) (plainFor_of_name pn_11) (fun m => by first | (simp [entryFrame, mkF, argsToLocals, Value.category]; done) | rfl) (fun w C => ?_)
  replace C : Cx w l Z "java/util/Arrays" jdk_65_method_119_code 2 (some (.array (.object "java/lang/Object"))) "copyOf" ({ frames := 2, cells := 1, slots := 2, locals := 33 } : Room) n0 := C
  obtain ⟨S_DEF, E_DEF, V_DEF, S_EL, E_EL, F_EL, V_EA, S_EM, E_EM, S_CS, hcs, MIR⟩ := id H
  obtain ⟨kD, V_DEF⟩ := V_DEF
  obtain ⟨kEA, V_EA⟩ := V_EA
  refine g_aloadN C (pc' := 1) d22_0 rfl rfl rfl ?_
  refine g_iloadN C (pc' := 2) d22_1 rfl rfl ?_
  refine g_aloadN C (pc' := 3) d22_2 rfl rfl rfl ?_
  refine g_getClass C (pc' := 6) (wd hw 161 rfl) (wd hw 162 rfl) (wd hw 132 rfl) (wd hw 164 rfl) (wd hw 163 rfl) (wd hw 165 rfl) d22_3 rfl rfl Ee MIR (Nat.le_of_ble_eq_true rfl) (Nat.le_of_ble_eq_true rfl) rfl ?_
  refine g_callS C (pc' := 9) (k' := 1) (n' := 2) (argsL := [(.ref ed), (.int (2 : Int32)), (.ref mr)]) (rest := []) (wd hw 167 rfl) (wd hw 168 rfl) (wd hw 159 rfl) (wd hw 169 rfl) (by decide) d22_6 pd_18 rfl rfl rfl (cp3_2 l Z a0 hw n0 h O s_DEF s_EL s_EA s_EM cs mr H ed kE x0 x1 Ex0 Ex1 A1) (Nat.le_of_ble_eq_true rfl) (Nat.le_of_ble_eq_true rfl) (Nat.le_of_ble_eq_true rfl) (Nat.le_of_ble_eq_true rfl) rfl rfl rfl (fun v506 h505 q507 => ?_)
  obtain ⟨g, kG, rfl, q1, q2, q3, q4⟩ := q507
  show G w _ h505 1 2 9 #[.val (.ref ed), .val (.int (2 : Int32))] [(.ref g)]
  exact g_areturn C d22_9 rfl rfl rfl rfl (Nat.le_of_ble_eq_true rfl) (Nat.le_of_ble_eq_true rfl) (⟨g, kG, rfl, q1, q2, q3, q4⟩)
set_option maxRecDepth 65536 in
set_option maxHeartbeats 40000000 in
theorem toA_2 (l : Launch) (Z : State) (a0 : Array Value) (hw : ∀ d ∈ tables_1, d.before a0 Z = true) (n0 : Nat) (h : Heap) (O : Old Z n0 h) (s_DEF : Addr) (s_EL : Addr) (s_EA : Addr) (s_EM : Addr) (cs : Int32) (mr : Addr) (H : En Z s_DEF s_EL s_EA s_EM cs mr) (a ed : Addr) (kE : ClassId) (mc : Int32) (x0 x1 : Addr) (Ex0 : Exa Z h x0 "com/example/plumbline/plumbline/Band") (Ex1 : Exa Z h x1 "com/example/plumbline/plumbline/Band") (P : AL1 Z n0 h a ed kE mc (2 : Int32) [(.ref x0), (.ref x1), .null, .null, .null, .null, .null, .null, .null, .null]) : Con l Z (⟨"java/util/ArrayList", "toArray", "()[Ljava/lang/Object;"⟩ : MethodName) jdk_38_method_16_code 1 (some (.array (.object "java/lang/Object"))) ({ frames := 3, cells := 1, slots := 2, locals := 46 } : Room) #[(.ref a)] h n0 (fun v h' => ∃ g kG, v = some (.ref g) ∧ h.size ≤ g ∧ Keep h h' [] ∧ Exa Z h' g "[Ljava/lang/Object;" ∧ Arv Z h' g kG (.object "java/lang/Object") (2 : Int32) [(.ref x0), (.ref x1)] .null) := by
  refine Con.mk (Ls := #[.val (.ref a)]) (plainFor_of_name pn_10) (fun m => by first | (simp [entryFrame, mkF, argsToLocals, Value.category]; done) | rfl) (fun w C => ?_)
  replace C : Cx w l Z "java/util/ArrayList" jdk_38_method_16_code 1 (some (.array (.object "java/lang/Object"))) "toArray" ({ frames := 3, cells := 1, slots := 2, locals := 46 } : Room) n0 := C
  obtain ⟨S_DEF, E_DEF, V_DEF, S_EL, E_EL, F_EL, V_EA, S_EM, E_EM, S_CS, hcs, MIR⟩ := id H
  obtain ⟨kD, V_DEF⟩ := V_DEF
  obtain ⟨kEA, V_EA⟩ := V_EA
  obtain ⟨ga, ge, nae, Ov, E0, Ee, F1, F2, F3, A1⟩ := P
  refine g_aloadN C (pc' := 1) d21_0 rfl rfl rfl ?_
  refine g_getF C (pc' := 4) (wd hw 76 rfl) Via.refl d21_1 rfl F2 rfl ?_
  refine g_aloadN C (pc' := 5) d21_4 rfl rfl rfl ?_
  refine g_getF C (pc' := 8) (wd hw 89 rfl) Via.refl d21_5 rfl F3 rfl ?_
  refine g_callS C (pc' := 11) (k' := 1) (n' := 2) (argsL := [(.ref ed), (.int (2 : Int32))]) (rest := []) (wd hw 157 rfl) (wd hw 158 rfl) (wd hw 159 rfl) (wd hw 160 rfl) (by decide) d21_8 pd_16 rfl rfl rfl (cp2_2 l Z a0 hw n0 h O s_DEF s_EL s_EA s_EM cs mr H ed kE x0 x1 Ex0 Ex1 Ee A1) (Nat.le_of_ble_eq_true rfl) (Nat.le_of_ble_eq_true rfl) (Nat.le_of_ble_eq_true rfl) (Nat.le_of_ble_eq_true rfl) rfl rfl rfl (fun v509 h508 q510 => ?_)
  obtain ⟨g, kG, rfl, q1, q2, q3, q4⟩ := q510
  show G w _ h508 1 2 11 #[.val (.ref a)] [(.ref g)]
  exact g_areturn C d21_11 rfl rfl rfl rfl (Nat.le_of_ble_eq_true rfl) (Nat.le_of_ble_eq_true rfl) (⟨g, kG, rfl, q1, q2, q3, q4⟩)
theorem d25_45 : decode jdk_40_method_47_code 45 = .ok (.new 96, 3) := by decide +kernel
theorem d25_48 : decode jdk_40_method_47_code 48 = .ok (.dup, 1) := by decide +kernel
theorem d25_49 : decode jdk_40_method_47_code 49 = .ok (.aload_n 0, 1) := by decide +kernel
theorem d25_50 : decode jdk_40_method_47_code 50 = .ok (.iconst 0, 1) := by decide +kernel
theorem d25_51 : decode jdk_40_method_47_code 51 = .ok (.aaload, 1) := by decide +kernel
theorem d25_52 : decode jdk_40_method_47_code 52 = .ok (.aload_n 0, 1) := by decide +kernel
theorem d25_53 : decode jdk_40_method_47_code 53 = .ok (.iconst 1, 1) := by decide +kernel
theorem d25_54 : decode jdk_40_method_47_code 54 = .ok (.aaload, 1) := by decide +kernel
theorem d25_55 : decode jdk_40_method_47_code 55 = .ok (.invokespecial 100, 3) := by decide +kernel
theorem pd_24 : parseMethodDescriptor "(Ljava/lang/Object;Ljava/lang/Object;)V" = some ⟨[(.object "java/lang/Object"), (.object "java/lang/Object")], none⟩ := by decide +kernel
theorem d25_58 : decode jdk_40_method_47_code 58 = .ok (.areturn, 1) := by decide +kernel
set_option maxRecDepth 65536 in
set_option maxHeartbeats 40000000 in
theorem lofA_2 (l : Launch) (Z : State) (a0 : Array Value) (hw : ∀ d ∈ tables_1, d.before a0 Z = true) (n0 : Nat) (h : Heap) (O : Old Z n0 h) (s_DEF : Addr) (s_EL : Addr) (s_EA : Addr) (s_EM : Addr) (cs : Int32) (mr : Addr) (H : En Z s_DEF s_EL s_EA s_EM cs mr) (g : Addr) (kG : ClassId) (x0 x1 : Addr) (Ex0 : Exa Z h x0 "com/example/plumbline/plumbline/Band") (Ex1 : Exa Z h x1 "com/example/plumbline/plumbline/Band") (A1 : Arv Z h g kG (.object "java/lang/Object") (2 : Int32) [(.ref x0), (.ref x1)] .null) : Con l Z (⟨"java/util/List", "of", "([Ljava/lang/Object;)Ljava/util/List;"⟩ : MethodName) jdk_40_method_47_code 2 (some (.object "java/util/List")) ({ frames := 5, cells := 1, slots := 2, locals := 63 } : Room) #[(.ref g)] h n0 (fun v h' => ∃ L, v = some (.ref L) ∧ h.size ≤ L ∧ Keep h h' [] ∧ Exa Z h' L "java/util/ImmutableCollections$List12") := by
  refine Con.mk (Ls := #[.val (.ref g), .unset]) (plainFor_of_name pn_17) (fun m => by first | (simp [entryFrame, mkF, argsToLocals, Value.category]; done) | rfl) (fun w C => ?_)
  replace C : Cx w l Z "java/util/List" jdk_40_method_47_code 2 (some (.object "java/util/List")) "of" ({ frames := 5, cells := 1, slots := 2, locals := 63 } : Room) n0 := C
  obtain ⟨S_DEF, E_DEF, V_DEF, S_EL, E_EL, F_EL, V_EA, S_EM, E_EM, S_CS, hcs, MIR⟩ := id H
  obtain ⟨kD, V_DEF⟩ := V_DEF
  obtain ⟨kEA, V_EA⟩ := V_EA
  refine g_aloadN C (pc' := 1) d25_0 rfl rfl rfl ?_
  refine g_alen C (pc' := 2) d25_1 rfl A1 rfl ?_
  refine g_tsw C (pc' := 45) d25_2 rfl (by decide) rfl (by decide) rfl ?_
  refine g_new C (pc' := 48) (k' := 1) (n' := 2) (wd hw 230 rfl) (wd hw 231 rfl) (wd hw 232 rfl) d25_45 (by decide) (by decide) rfl rfl rfl (fun h511 b512 ex513 E514 A515 D516 => ?_)
  have ne_g_b512 : g ≠ b512 := Nat.ne_of_lt (by rw [ex513]; exact A1.lt)
  have ne_x0_b512 : x0 ≠ b512 := Nat.ne_of_lt (by rw [ex513]; exact Ex0.lt)
  have ne_x1_b512 : x1 ≠ b512 := Nat.ne_of_lt (by rw [ex513]; exact Ex1.lt)
  have ge_b512 : n0 ≤ b512 := by rw [ex513]; exact O.1 ▸ O.2.1
  have sz_b512 : h.size ≤ b512 := by rw [ex513]; exact (Keep.refl h []).1
  have f517 := O.ext E514
  have f518 := (Keep.refl h []).ext E514
  have f519 := A1.ext E514
  have f520 := Ex0.ext E514
  have f521 := Ex1.ext E514
  have F_e0_b512 : Fld Z h511 b512 "java/util/ImmutableCollections$List12" "e0" "Ljava/lang/Object;" .null := D516 (Or.inr (wd hw 243 rfl)) (ty := (.object "java/lang/Object")) (by decide)
  have F_e1_b512 : Fld Z h511 b512 "java/util/ImmutableCollections$List12" "e1" "Ljava/lang/Object;" .null := D516 (Or.inr (wd hw 246 rfl)) (ty := (.object "java/lang/Object")) (by decide)
  refine g_dup C (pc' := 49) d25_48 rfl rfl rfl ?_
  refine g_aloadN C (pc' := 50) d25_49 rfl rfl rfl ?_
  refine g_iconst C (pc' := 51) (v := (0 : Int32)) d25_50 (by decide) rfl ?_
  refine g_aaload C (pc' := 52) (x := (.ref x0)) d25_51 rfl f519 rfl (by decide) (by decide) rfl rfl ?_
  refine g_aloadN C (pc' := 53) d25_52 rfl rfl rfl ?_
  refine g_iconst C (pc' := 54) (v := (1 : Int32)) d25_53 (by decide) rfl ?_
  refine g_aaload C (pc' := 55) (x := (.ref x1)) d25_54 rfl f519 rfl (by decide) (by decide) rfl rfl ?_
  refine g_special C (pc' := 58) (k' := 1) (n' := 2) (argsL := [(.ref x0), (.ref x1)]) (rest := [(.ref b512)]) (wd hw 253 rfl) (wd hw 254 rfl) (wd hw 232 rfl) (wd hw 255 rfl) (by decide) rfl d25_55 pd_24 rfl rfl rfl (l12_2 l Z a0 hw n0 h511 f517 s_DEF s_EL s_EA s_EM cs mr H b512 x0 x1 ge_b512 A515 F_e0_b512 F_e1_b512) (Nat.le_of_ble_eq_true rfl) (Nat.le_of_ble_eq_true rfl) (Nat.le_of_ble_eq_true rfl) (Nat.le_of_ble_eq_true rfl) rfl rfl rfl (fun v523 h522 q524 => ?_)
  obtain ⟨rfl, k1⟩ := q524
  have f525 := f517.keep k1 (allS ge_b512 all0)
  have f526 := f518.trans k1 (allS (Or.inr sz_b512) all0)
  have f527 := f519.keep k1 (ninS ne_g_b512 nin0)
  have f528 := f520.keep k1
  have f529 := f521.keep k1
  have f530 := A515.keep k1
  show G w _ h522 1 2 58 #[.val (.ref g), .unset] [(.ref b512)]
  exact g_areturn C d25_58 rfl rfl rfl rfl (Nat.le_of_ble_eq_true rfl) (Nat.le_of_ble_eq_true rfl) (⟨b512, rfl, sz_b512, f526, f530⟩)
set_option maxRecDepth 65536 in
set_option maxHeartbeats 40000000 in
theorem lcp_2 (l : Launch) (Z : State) (a0 : Array Value) (hw : ∀ d ∈ tables_1, d.before a0 Z = true) (n0 : Nat) (h : Heap) (O : Old Z n0 h) (s_DEF : Addr) (s_EL : Addr) (s_EA : Addr) (s_EM : Addr) (cs : Int32) (mr : Addr) (H : En Z s_DEF s_EL s_EA s_EM cs mr) (a ed : Addr) (kE : ClassId) (mc : Int32) (x0 x1 : Addr) (Ex0 : Exa Z h x0 "com/example/plumbline/plumbline/Band") (Ex1 : Exa Z h x1 "com/example/plumbline/plumbline/Band") (P : AL1 Z n0 h a ed kE mc (2 : Int32) [(.ref x0), (.ref x1), .null, .null, .null, .null, .null, .null, .null, .null]) : Con l Z (⟨"java/util/ImmutableCollections", "listCopy", "(Ljava/util/Collection;)Ljava/util/List;"⟩ : MethodName) jdk_56_method_3_code 2 (some (.object "java/util/List")) ({ frames := 6, cells := 2, slots := 4, locals := 76 } : Room) #[(.ref a)] h n0 (fun v h' => ∃ L, v = some (.ref L) ∧ h.size ≤ L ∧ Keep h h' [] ∧ Exa Z h' L "java/util/ImmutableCollections$List12") := by
  refine Con.mk (Ls := #[.val (.ref a), .unset]) (plainFor_of_name pn_12) (fun m => by first | (simp [entryFrame, mkF, argsToLocals, Value.category]; done) | rfl) (fun w C => ?_)
  replace C : Cx w l Z "java/util/ImmutableCollections" jdk_56_method_3_code 2 (some (.object "java/util/List")) "listCopy" ({ frames := 6, cells := 2, slots := 4, locals := 76 } : Room) n0 := C
  obtain ⟨S_DEF, E_DEF, V_DEF, S_EL, E_EL, F_EL, V_EA, S_EM, E_EM, S_CS, hcs, MIR⟩ := id H
  obtain ⟨kD, V_DEF⟩ := V_DEF
  obtain ⟨kEA, V_EA⟩ := V_EA
  have P0 := P
  obtain ⟨ga, ge, nae, Ov, E0, Ee, F1, F2, F3, A1⟩ := P
  refine g_aloadN C (pc' := 1) d18_0 rfl rfl rfl ?_
  refine g_instN C (pc' := 4) (wd hw 128 rfl) d18_1 rfl E0 (ns_no (wd hw 129 rfl) (wd hw 231 rfl) (NS.step (wd hw 129 rfl) (NS.step (wd hw 130 rfl) (NS.step (wd hw 131 rfl) (ns_root (wd hw 132 rfl) (wd hw 231 rfl) (by decide)) (by decide)) (by decide)) (by decide)) (by decide)) rfl ?_
  refine g_ifN C (pc' := 7) d18_4 rfl (by decide) rfl ?_
  refine g_aloadN C (pc' := 8) d18_7 rfl rfl rfl ?_
  refine g_instN C (pc' := 11) (wd hw 133 rfl) d18_8 rfl E0 (ns_no (wd hw 129 rfl) (wd hw 190 rfl) (NS.step (wd hw 129 rfl) (NS.step (wd hw 130 rfl) (NS.step (wd hw 131 rfl) (ns_root (wd hw 132 rfl) (wd hw 190 rfl) (by decide)) (by decide)) (by decide)) (by decide)) (by decide)) rfl ?_
  refine g_ifY C (pc' := 31) d18_11 rfl (by decide) (by decide) rfl ?_
  refine g_aloadN C (pc' := 32) d18_31 rfl rfl rfl ?_
  refine g_interface C (pc' := 37) (k' := 0) (n' := 0) (argsL := []) (rest := []) (wd hw 134 rfl) (wd hw 135 rfl) (wd hw 136 rfl) rfl (wd hw 137 rfl) (wd hw 138 rfl) (wd hw 139 rfl) (wd hw 140 rfl) (wd hw 141 rfl) (wd hw 56 rfl) (wd hw 142 rfl) (by decide) d18_32 pd_14 rfl rfl rfl E0 (alEmp_2 l Z a0 hw n0 h O s_DEF s_EL s_EA s_EM cs mr H a ed kE mc x0 x1 P0) (Nat.le_of_ble_eq_true rfl) (Nat.le_of_ble_eq_true rfl) (Nat.le_of_ble_eq_true rfl) (Nat.le_of_ble_eq_true rfl) rfl rfl rfl (fun v532 h531 q533 => ?_)
  obtain ⟨rfl, eh531⟩ := q533
  subst h531
  show G w _ h 0 0 37 #[.val (.ref a), .unset] [(.int (0 : Int32))]
  refine g_ifY C (pc' := 44) d18_37 rfl (by decide) (by decide) rfl ?_
  refine g_aloadN C (pc' := 45) d18_44 rfl rfl rfl ?_
  refine g_interface C (pc' := 50) (k' := 1) (n' := 2) (argsL := []) (rest := []) (wd hw 149 rfl) (wd hw 150 rfl) (wd hw 151 rfl) rfl (wd hw 152 rfl) (wd hw 153 rfl) (wd hw 154 rfl) (wd hw 155 rfl) (wd hw 141 rfl) (wd hw 56 rfl) (wd hw 156 rfl) (by decide) d18_45 pd_9 rfl rfl rfl E0 (toA_2 l Z a0 hw n0 h O s_DEF s_EL s_EA s_EM cs mr H a ed kE mc x0 x1 Ex0 Ex1 P0) (Nat.le_of_ble_eq_true rfl) (Nat.le_of_ble_eq_true rfl) (Nat.le_of_ble_eq_true rfl) (Nat.le_of_ble_eq_true rfl) rfl rfl rfl (fun v535 h534 q536 => ?_)
  obtain ⟨g, kG, rfl, q1, q2, q3, q4⟩ := q536
  have ne_a_g : a ≠ g := Nat.ne_of_lt (Nat.lt_of_lt_of_le E0.lt q1)
  have ne_ed_g : ed ≠ g := Nat.ne_of_lt (Nat.lt_of_lt_of_le Ee.lt q1)
  have ne_x0_g : x0 ≠ g := Nat.ne_of_lt (Nat.lt_of_lt_of_le Ex0.lt q1)
  have ne_x1_g : x1 ≠ g := Nat.ne_of_lt (Nat.lt_of_lt_of_le Ex1.lt q1)
  have ge_g : n0 ≤ g := Nat.le_trans (O.1 ▸ O.2.1) q1
  have sz_g : h.size ≤ g := Nat.le_trans (Keep.refl h []).1 q1
  have f537 := O.keep q2 all0
  have f538 := (Keep.refl h []).trans q2 all0
  have f539 := E0.keep q2
  have f540 := F1.keep q2 nin0
  have f541 := F2.keep q2 nin0
  have f542 := F3.keep q2 nin0
  have f543 := Ee.keep q2
  have f544 := A1.keep q2 nin0
  have f545 := Ex0.keep q2
  have f546 := Ex1.keep q2
  show G w _ h534 1 2 50 #[.val (.ref a), .unset] [(.ref g)]
  refine g_callS C (pc' := 53) (k' := 2) (n' := 4) (argsL := [(.ref g)]) (rest := []) (wd hw 179 rfl) (wd hw 180 rfl) (wd hw 122 rfl) (wd hw 181 rfl) (by decide) d18_50 pd_20 rfl rfl rfl (lofA_2 l Z a0 hw n0 h534 f537 s_DEF s_EL s_EA s_EM cs mr H g kG x0 x1 f545 f546 q4) (Nat.le_of_ble_eq_true rfl) (Nat.le_of_ble_eq_true rfl) (Nat.le_of_ble_eq_true rfl) (Nat.le_of_ble_eq_true rfl) rfl rfl rfl (fun v548 h547 q549 => ?_)
  obtain ⟨L, rfl, r1, r2, r3⟩ := q549
  have u1 := Nat.le_trans q2.1 r1
  have f550 := f537.keep r2 all0
  have f551 := f538.trans r2 all0
  have f552 := f539.keep r2
  have f553 := f540.keep r2 nin0
  have f554 := f541.keep r2 nin0
  have f555 := f542.keep r2 nin0
  have f556 := f543.keep r2
  have f557 := f544.keep r2 nin0
  have f558 := f545.keep r2
  have f559 := f546.keep r2
  have f560 := q4.keep r2 nin0
  show G w _ h547 2 4 53 #[.val (.ref a), .unset] [(.ref L)]
  exact g_areturn C d18_53 rfl rfl rfl rfl (Nat.le_of_ble_eq_true rfl) (Nat.le_of_ble_eq_true rfl) (⟨L, rfl, u1, f551, r3⟩)
set_option maxRecDepth 65536 in
set_option maxHeartbeats 40000000 in
theorem cpo_2 (l : Launch) (Z : State) (a0 : Array Value) (hw : ∀ d ∈ tables_1, d.before a0 Z = true) (n0 : Nat) (h : Heap) (O : Old Z n0 h) (s_DEF : Addr) (s_EL : Addr) (s_EA : Addr) (s_EM : Addr) (cs : Int32) (mr : Addr) (H : En Z s_DEF s_EL s_EA s_EM cs mr) (a ed : Addr) (kE : ClassId) (mc : Int32) (x0 x1 : Addr) (Ex0 : Exa Z h x0 "com/example/plumbline/plumbline/Band") (Ex1 : Exa Z h x1 "com/example/plumbline/plumbline/Band") (P : AL1 Z n0 h a ed kE mc (2 : Int32) [(.ref x0), (.ref x1), .null, .null, .null, .null, .null, .null, .null, .null]) : Con l Z (⟨"java/util/List", "copyOf", "(Ljava/util/Collection;)Ljava/util/List;"⟩ : MethodName) jdk_40_method_48_code 1 (some (.object "java/util/List")) ({ frames := 7, cells := 2, slots := 4, locals := 89 } : Room) #[(.ref a)] h n0 (fun v h' => ∃ L, v = some (.ref L) ∧ h.size ≤ L ∧ Keep h h' [] ∧ Exa Z h' L "java/util/ImmutableCollections$List12") := by
  refine Con.mk (Ls := #[.val (.ref a)]) (plainFor_of_name pn_17) (fun m => by first | (simp [entryFrame, mkF, argsToLocals, Value.category]; done) | rfl) (fun w C => ?_)
  replace C : Cx w l Z "java/util/List" jdk_40_method_48_code 1 (some (.object "java/util/List")) "copyOf" ({ frames := 7, cells := 2, slots := 4, locals := 89 } : Room) n0 := C
  obtain ⟨S_DEF, E_DEF, V_DEF, S_EL, E_EL, F_EL, V_EA, S_EM, E_EM, S_CS, hcs, MIR⟩ := id H
  obtain ⟨kD, V_DEF⟩ := V_DEF
  obtain ⟨kEA, V_EA⟩ := V_EA
  refine g_aloadN C (pc' := 1) d17_0 rfl rfl rfl ?_
  refine g_callS C (pc' := 4) (k' := 2) (n' := 4) (argsL := [(.ref a)]) (rest := []) (wd hw 124 rfl) (wd hw 125 rfl) (wd hw 126 rfl) (wd hw 127 rfl) (by decide) d17_1 pd_13 rfl rfl rfl (lcp_2 l Z a0 hw n0 h O s_DEF s_EL s_EA s_EM cs mr H a ed kE mc x0 x1 Ex0 Ex1 P) (Nat.le_of_ble_eq_true rfl) (Nat.le_of_ble_eq_true rfl) (Nat.le_of_ble_eq_true rfl) (Nat.le_of_ble_eq_true rfl) rfl rfl rfl (fun v562 h561 q563 => ?_)
  obtain ⟨L, rfl, q1, q2, q3⟩ := q563
  show G w _ h561 2 4 4 #[.val (.ref a)] [(.ref L)]
  exact g_areturn C d17_4 rfl rfl rfl rfl (Nat.le_of_ble_eq_true rfl) (Nat.le_of_ble_eq_true rfl) (⟨L, rfl, q1, q2, q3⟩)
set_option maxRecDepth 65536 in
set_option maxHeartbeats 40000000 in
theorem min_10_3 (l : Launch) (Z : State) (a0 : Array Value) (hw : ∀ d ∈ tables_1, d.before a0 Z = true) (n0 : Nat) (h : Heap) (O : Old Z n0 h) (s_DEF : Addr) (s_EL : Addr) (s_EA : Addr) (s_EM : Addr) (cs : Int32) (mr : Addr) (H : En Z s_DEF s_EL s_EA s_EM cs mr) : Con l Z (⟨"java/lang/Math", "min", "(II)I"⟩ : MethodName) jdk_29_method_69_code 2 (some .int) ({ frames := 0, cells := 0, slots := 0, locals := 0 } : Room) #[(.int (10 : Int32)), (.int (3 : Int32))] h n0 (fun v h' => v = some (.int (3 : Int32)) ∧ h' = h) := by
  refine Con.mk (Ls := #[.val (.int (10 : Int32)), .val (.int (3 : Int32))]) (Jvm.Free.JP.mathPlain rfl (by decide +kernel)) (fun m => by first | (simp [entryFrame, mkF, argsToLocals, Value.category]; done) | rfl) (fun w C => ?_)
  replace C : Cx w l Z "java/lang/Math" jdk_29_method_69_code 2 (some .int) "min" ({ frames := 0, cells := 0, slots := 0, locals := 0 } : Room) n0 := C
  obtain ⟨S_DEF, E_DEF, V_DEF, S_EL, E_EL, F_EL, V_EA, S_EM, E_EM, S_CS, hcs, MIR⟩ := id H
  refine g_iloadN C (pc' := 1) d24_0 rfl rfl ?_
  refine g_iloadN C (pc' := 2) d24_1 rfl rfl ?_
  refine g_icY C (pc' := 9) d24_2 rfl (by decide) (by decide) rfl ?_
  refine g_iloadN C (pc' := 10) d24_9 rfl rfl ?_
  exact g_ireturn C d24_10 rfl (Nat.le_of_ble_eq_true rfl) (Nat.le_of_ble_eq_true rfl) (⟨rfl, rfl⟩)
set_option maxRecDepth 65536 in
set_option maxHeartbeats 40000000 in
theorem cp3_3 (l : Launch) (Z : State) (a0 : Array Value) (hw : ∀ d ∈ tables_1, d.before a0 Z = true) (n0 : Nat) (h : Heap) (O : Old Z n0 h) (s_DEF : Addr) (s_EL : Addr) (s_EA : Addr) (s_EM : Addr) (cs : Int32) (mr : Addr) (H : En Z s_DEF s_EL s_EA s_EM cs mr) (ed : Addr) (kE : ClassId) (x0 x1 x2 : Addr) (Ex0 : Exa Z h x0 "com/example/plumbline/plumbline/Band") (Ex1 : Exa Z h x1 "com/example/plumbline/plumbline/Band") (Ex2 : Exa Z h x2 "com/example/plumbline/plumbline/Band") (A1 : Arv Z h ed kE (.object "java/lang/Object") (10 : Int32) [(.ref x0), (.ref x1), (.ref x2), .null, .null, .null, .null, .null, .null, .null] .null) : Con l Z (⟨"java/util/Arrays", "copyOf", "([Ljava/lang/Object;ILjava/lang/Class;)[Ljava/lang/Object;"⟩ : MethodName) jdk_65_method_120_code 4 (some (.array (.object "java/lang/Object"))) ({ frames := 1, cells := 1, slots := 3, locals := 18 } : Room) #[(.ref ed), (.int (3 : Int32)), (.ref mr)] h n0 (fun v h' => ∃ g kG, v = some (.ref g) ∧ h.size ≤ g ∧ Keep h h' [] ∧ Exa Z h' g "[Ljava/lang/Object;" ∧ Arv Z h' g kG (.object "java/lang/Object") (3 : Int32) [(.ref x0), (.ref x1), (.ref x2)] .null) := by
  refine Con.mk (Ls := #[.val (.ref ed), .val (.int (3 : Int32)), .val (.ref mr), .unset]) (plainFor_of_name pn_11) (fun m => by first | (simp [entryFrame, mkF, argsToLocals, Value.category]; done) | rfl) (fun w C => ?_)
  replace C : Cx w l Z "java/util/Arrays" jdk_65_method_120_code 4 (some (.array (.object "java/lang/Object"))) "copyOf" ({ frames := 1, cells := 1, slots := 3, locals := 18 } : Room) n0 := C
  obtain ⟨S_DEF, E_DEF, V_DEF, S_EL, E_EL, F_EL, V_EA, S_EM, E_EM, S_CS, hcs, MIR⟩ := id H
  obtain ⟨kD, V_DEF⟩ := V_DEF
  obtain ⟨kEA, V_EA⟩ := V_EA
  refine g_aloadN C (pc' := 1) d23_0 rfl rfl rfl ?_
  refine g_ldcMirror C (pc' := 3) (wd hw 170 rfl) MIR d23_1 rfl ?_
  refine g_acmp C (pc' := 6) (same := true) d23_3 rfl rfl rfl (decide_eq_true rfl) (by decide) (by decide) ?_
  refine g_iloadN C (pc' := 7) d23_6 rfl rfl ?_
  refine g_newRE C (pc' := 10) (k' := 1) (n' := 3) (cap := 3) (ad := "[Ljava/lang/Object;") (wd hw 171 rfl) (wd hw 111 rfl) (by decide) d23_7 rfl (by decide) (by decide) (by decide) (by decide) (by decide) rfl rfl rfl (fun h564 b565 kA566 ex567 E568 A569 B571 Ov570 => ?_)
  have ne_ed_b565 : ed ≠ b565 := Nat.ne_of_lt (by rw [ex567]; exact A1.lt)
  have ne_x0_b565 : x0 ≠ b565 := Nat.ne_of_lt (by rw [ex567]; exact Ex0.lt)
  have ne_x1_b565 : x1 ≠ b565 := Nat.ne_of_lt (by rw [ex567]; exact Ex1.lt)
  have ne_x2_b565 : x2 ≠ b565 := Nat.ne_of_lt (by rw [ex567]; exact Ex2.lt)
  have ge_b565 : n0 ≤ b565 := by rw [ex567]; exact O.1 ▸ O.2.1
  have sz_b565 : h.size ≤ b565 := by rw [ex567]; exact (Keep.refl h []).1
  have f572 := O.ext E568
  have f573 := (Keep.refl h []).ext E568
  have f574 := A1.ext E568
  have f575 := Ex0.ext E568
  have f576 := Ex1.ext E568
  have f577 := Ex2.ext E568
  have A578 : Arv Z h564 b565 kA566 (.object "java/lang/Object") (3 : Int32) [.null, .null, .null] .null := A569.pad (pad_rep [] .null 3)
  refine g_goto C (pc' := 24) d23_10 (by decide) rfl ?_
  refine g_astoreN C (pc' := 25) (Ls' := #[.val (.ref ed), .val (.int (3 : Int32)), .val (.ref mr), .val (.ref b565)]) d23_24 rfl rfl rfl rfl ?_
  refine g_aloadN C (pc' := 26) d23_25 rfl rfl rfl ?_
  refine g_iconst C (pc' := 27) (v := (0 : Int32)) d23_26 (by decide) rfl ?_
  refine g_aloadN C (pc' := 28) d23_27 rfl rfl rfl ?_
  refine g_iconst C (pc' := 29) (v := (0 : Int32)) d23_28 (by decide) rfl ?_
  refine g_aloadN C (pc' := 30) d23_29 rfl rfl rfl ?_
  refine g_alen C (pc' := 31) d23_30 rfl f574 rfl ?_
  refine g_iloadN C (pc' := 32) d23_31 rfl rfl ?_
  refine g_callS C (pc' := 35) (k' := 1) (n' := 3) (argsL := [(.int (10 : Int32)), (.int (3 : Int32))]) (rest := [(.int (0 : Int32)), (.ref b565), (.int (0 : Int32)), (.ref ed)]) (wd hw 172 rfl) (wd hw 173 rfl) (wd hw 108 rfl) (wd hw 174 rfl) (by decide) d23_32 pd_11 rfl rfl rfl (min_10_3 l Z a0 hw n0 h564 f572 s_DEF s_EL s_EA s_EM cs mr H) (Nat.le_of_ble_eq_true rfl) (Nat.le_of_ble_eq_true rfl) (Nat.le_of_ble_eq_true rfl) (Nat.le_of_ble_eq_true rfl) rfl rfl rfl (fun v580 h579 q581 => ?_)
  obtain ⟨rfl, eh579⟩ := q581
  subst h579
  show G w _ h564 1 3 35 #[.val (.ref ed), .val (.int (3 : Int32)), .val (.ref mr), .val (.ref b565)] [(.int (3 : Int32)), (.int (0 : Int32)), (.ref b565), (.int (0 : Int32)), (.ref ed)]
  refine g_cpA C (pc' := 38) (us := [(.ref x0), (.ref x1), (.ref x2)]) (wd hw 175 rfl) (wd hw 178 rfl) (wd hw 176 rfl) (wd hw 177 rfl) d23_35 rfl rfl f574 A578 (Or.inr ⟨rfl, rfl, ⟨stoR A578 Ov570 (Ins.of_exa f575 (wd hw 112 rfl)), ⟨stoR A578 Ov570 (Ins.of_exa f576 (wd hw 112 rfl)), ⟨stoR A578 Ov570 (Ins.of_exa f577 (wd hw 112 rfl)), trivial⟩⟩⟩⟩) (by decide) (by decide) (by decide) (Nat.le_of_ble_eq_true rfl) (Nat.le_of_ble_eq_true rfl) rfl (Nat.le_of_ble_eq_true rfl) ge_b565 (Nat.le_of_ble_eq_true rfl) (Nat.le_of_ble_eq_true rfl) rfl (fun h582 K583 A584 => ?_)
  have f585 := f572.keep K583 (allS ge_b565 all0)
  have f586 := f573.trans K583 (allS (Or.inr sz_b565) all0)
  have f587 := f574.keep K583 (ninS ne_ed_b565 nin0)
  have f588 := f575.keep K583
  have f589 := f576.keep K583
  have f590 := f577.keep K583
  have f591 := B571.keep K583
  have A592 : Arv Z h582 b565 kA566 (.object "java/lang/Object") (3 : Int32) [(.ref x0), (.ref x1), (.ref x2)] .null := A584
  refine g_aloadN C (pc' := 39) d23_38 rfl rfl rfl ?_
  exact g_areturn C d23_39 rfl rfl rfl rfl (Nat.le_of_ble_eq_true rfl) (Nat.le_of_ble_eq_true rfl) (⟨b565, kA566, rfl, sz_b565, f586, f591, A592⟩)
set_option maxRecDepth 65536 in
set_option maxHeartbeats 40000000 in
theorem cp2_3 (l : Launch) (Z : State) (a0 : Array Value) (hw : ∀ d ∈ tables_1, d.before a0 Z = true) (n0 : Nat) (h : Heap) (O : Old Z n0 h) (s_DEF : Addr) (s_EL : Addr) (s_EA : Addr) (s_EM : Addr) (cs : Int32) (mr : Addr) (H : En Z s_DEF s_EL s_EA s_EM cs mr) (ed : Addr) (kE : ClassId) (x0 x1 x2 : Addr) (Ex0 : Exa Z h x0 "com/example/plumbline/plumbline/Band") (Ex1 : Exa Z h x1 "com/example/plumbline/plumbline/Band") (Ex2 : Exa Z h x2 "com/example/plumbline/plumbline/Band") (Ee : Exa Z h ed "[Ljava/lang/Object;") (A1 : Arv Z h ed kE (.object "java/lang/Object") (10 : Int32) [(.ref x0), (.ref x1), (.ref x2), .null, .null, .null, .null, .null, .null, .null] .null) : Con l Z (⟨"java/util/Arrays", "copyOf", "([Ljava/lang/Object;I)[Ljava/lang/Object;"⟩ : MethodName) jdk_65_method_119_code 2 (some (.array (.object "java/lang/Object"))) ({ frames := 2, cells := 1, slots := 3, locals := 33 } : Room) #[(.ref ed), (.int (3 : Int32))] h n0 (fun v h' => ∃ g kG, v = some (.ref g) ∧ h.size ≤ g ∧ Keep h h' [] ∧ Exa Z h' g "[Ljava/lang/Object;" ∧ Arv Z h' g kG (.object "java/lang/Object") (3 : Int32) [(.ref x0), (.ref x1), (.ref x2)] .null) := by
  refine Con.mk (Ls := #[.val (.ref ed), .val (.int (3 : Int32))]) (plainFor_of_name pn_11) (fun m => by first | (simp [entryFrame, mkF, argsToLocals, Value.category]; done) | rfl) (fun w C => ?_)
  replace C : Cx w l Z "java/util/Arrays" jdk_65_method_119_code 2 (some (.array (.object "java/lang/Object"))) "copyOf" ({ frames := 2, cells := 1, slots := 3, locals := 33 } : Room) n0 := C
  obtain ⟨S_DEF, E_DEF, V_DEF, S_EL, E_EL, F_EL, V_EA, S_EM, E_EM, S_CS, hcs, MIR⟩ := id H
  obtain ⟨kD, V_DEF⟩ := V_DEF
  obtain ⟨kEA, V_EA⟩ := V_EA
  refine g_aloadN C (pc' := 1) d22_0 rfl rfl rfl ?_
  refine g_iloadN C (pc' := 2) d22_1 rfl rfl ?_
  refine g_aloadN C (pc' := 3) d22_2 rfl rfl rfl ?_
  refine g_getClass C (pc' := 6) (wd hw 161 rfl) (wd hw 162 rfl) (wd hw 132 rfl) (wd hw 164 rfl) (wd hw 163 rfl) (wd hw 165 rfl) d22_3 rfl rfl Ee MIR (Nat.le_of_ble_eq_true rfl) (Nat.le_of_ble_eq_true rfl) rfl ?_
  refine g_callS C (pc' := 9) (k' := 1) (n' := 3) (argsL := [(.ref ed), (.int (3 : Int32)), (.ref mr)]) (rest := []) (wd hw 167 rfl) (wd hw 168 rfl) (wd hw 159 rfl) (wd hw 169 rfl) (by decide) d22_6 pd_18 rfl rfl rfl (cp3_3 l Z a0 hw n0 h O s_DEF s_EL s_EA s_EM cs mr H ed kE x0 x1 x2 Ex0 Ex1 Ex2 A1) (Nat.le_of_ble_eq_true rfl) (Nat.le_of_ble_eq_true rfl) (Nat.le_of_ble_eq_true rfl) (Nat.le_of_ble_eq_true rfl) rfl rfl rfl (fun v594 h593 q595 => ?_)
  obtain ⟨g, kG, rfl, q1, q2, q3, q4⟩ := q595
  show G w _ h593 1 3 9 #[.val (.ref ed), .val (.int (3 : Int32))] [(.ref g)]
  exact g_areturn C d22_9 rfl rfl rfl rfl (Nat.le_of_ble_eq_true rfl) (Nat.le_of_ble_eq_true rfl) (⟨g, kG, rfl, q1, q2, q3, q4⟩)
set_option maxRecDepth 65536 in
set_option maxHeartbeats 40000000 in
theorem toA_3 (l : Launch) (Z : State) (a0 : Array Value) (hw : ∀ d ∈ tables_1, d.before a0 Z = true) (n0 : Nat) (h : Heap) (O : Old Z n0 h) (s_DEF : Addr) (s_EL : Addr) (s_EA : Addr) (s_EM : Addr) (cs : Int32) (mr : Addr) (H : En Z s_DEF s_EL s_EA s_EM cs mr) (a ed : Addr) (kE : ClassId) (mc : Int32) (x0 x1 x2 : Addr) (Ex0 : Exa Z h x0 "com/example/plumbline/plumbline/Band") (Ex1 : Exa Z h x1 "com/example/plumbline/plumbline/Band") (Ex2 : Exa Z h x2 "com/example/plumbline/plumbline/Band") (P : AL1 Z n0 h a ed kE mc (3 : Int32) [(.ref x0), (.ref x1), (.ref x2), .null, .null, .null, .null, .null, .null, .null]) : Con l Z (⟨"java/util/ArrayList", "toArray", "()[Ljava/lang/Object;"⟩ : MethodName) jdk_38_method_16_code 1 (some (.array (.object "java/lang/Object"))) ({ frames := 3, cells := 1, slots := 3, locals := 46 } : Room) #[(.ref a)] h n0 (fun v h' => ∃ g kG, v = some (.ref g) ∧ h.size ≤ g ∧ Keep h h' [] ∧ Exa Z h' g "[Ljava/lang/Object;" ∧ Arv Z h' g kG (.object "java/lang/Object") (3 : Int32) [(.ref x0), (.ref x1), (.ref x2)] .null) := by
  refine Con.mk (Ls := #[.val (.ref a)]) (plainFor_of_name pn_10) (fun m => by first | (simp [entryFrame, mkF, argsToLocals, Value.category]; done) | rfl) (fun w C => ?_)
  replace C : Cx w l Z "java/util/ArrayList" jdk_38_method_16_code 1 (some (.array (.object "java/lang/Object"))) "toArray" ({ frames := 3, cells := 1, slots := 3, locals := 46 } : Room) n0 := C
  obtain ⟨S_DEF, E_DEF, V_DEF, S_EL, E_EL, F_EL, V_EA, S_EM, E_EM, S_CS, hcs, MIR⟩ := id H
  obtain ⟨kD, V_DEF⟩ := V_DEF
  obtain ⟨kEA, V_EA⟩ := V_EA
  obtain ⟨ga, ge, nae, Ov, E0, Ee, F1, F2, F3, A1⟩ := P
  refine g_aloadN C (pc' := 1) d21_0 rfl rfl rfl ?_
  refine g_getF C (pc' := 4) (wd hw 76 rfl) Via.refl d21_1 rfl F2 rfl ?_
  refine g_aloadN C (pc' := 5) d21_4 rfl rfl rfl ?_
  refine g_getF C (pc' := 8) (wd hw 89 rfl) Via.refl d21_5 rfl F3 rfl ?_
  refine g_callS C (pc' := 11) (k' := 1) (n' := 3) (argsL := [(.ref ed), (.int (3 : Int32))]) (rest := []) (wd hw 157 rfl) (wd hw 158 rfl) (wd hw 159 rfl) (wd hw 160 rfl) (by decide) d21_8 pd_16 rfl rfl rfl (cp2_3 l Z a0 hw n0 h O s_DEF s_EL s_EA s_EM cs mr H ed kE x0 x1 x2 Ex0 Ex1 Ex2 Ee A1) (Nat.le_of_ble_eq_true rfl) (Nat.le_of_ble_eq_true rfl) (Nat.le_of_ble_eq_true rfl) (Nat.le_of_ble_eq_true rfl) rfl rfl rfl (fun v597 h596 q598 => ?_)
  obtain ⟨g, kG, rfl, q1, q2, q3, q4⟩ := q598
  show G w _ h596 1 3 11 #[.val (.ref a)] [(.ref g)]
  exact g_areturn C d21_11 rfl rfl rfl rfl (Nat.le_of_ble_eq_true rfl) (Nat.le_of_ble_eq_true rfl) (⟨g, kG, rfl, q1, q2, q3, q4⟩)
theorem d26_0 : decode jdk_56_method_4_code 0 = .ok (.aload_n 0, 1) := by decide +kernel
theorem d26_1 : decode jdk_56_method_4_code 1 = .ok (.arraylength, 1) := by decide +kernel
theorem d26_2 : decode jdk_56_method_4_code 2 = .ok (.anewarray 2, 3) := by decide +kernel
theorem d26_5 : decode jdk_56_method_4_code 5 = .ok (.astore_n 1, 1) := by decide +kernel
theorem d26_6 : decode jdk_56_method_4_code 6 = .ok (.iconst 0, 1) := by decide +kernel
theorem d26_7 : decode jdk_56_method_4_code 7 = .ok (.istore_n 2, 1) := by decide +kernel
theorem d26_8 : decode jdk_56_method_4_code 8 = .ok (.iload_n 2, 1) := by decide +kernel
theorem d26_9 : decode jdk_56_method_4_code 9 = .ok (.aload_n 0, 1) := by decide +kernel
theorem d26_10 : decode jdk_56_method_4_code 10 = .ok (.arraylength, 1) := by decide +kernel
theorem d26_11 : decode jdk_56_method_4_code 11 = .ok (.if_icmp .ge 18, 3) := by decide +kernel
theorem d26_14 : decode jdk_56_method_4_code 14 = .ok (.aload_n 1, 1) := by decide +kernel
theorem d26_15 : decode jdk_56_method_4_code 15 = .ok (.iload_n 2, 1) := by decide +kernel
theorem d26_16 : decode jdk_56_method_4_code 16 = .ok (.aload_n 0, 1) := by decide +kernel
theorem d26_17 : decode jdk_56_method_4_code 17 = .ok (.iload_n 2, 1) := by decide +kernel
theorem d26_18 : decode jdk_56_method_4_code 18 = .ok (.aaload, 1) := by decide +kernel
theorem d26_19 : decode jdk_56_method_4_code 19 = .ok (.invokestatic 37, 3) := by decide +kernel
theorem d26_22 : decode jdk_56_method_4_code 22 = .ok (.aastore, 1) := by decide +kernel
theorem d26_23 : decode jdk_56_method_4_code 23 = .ok (.iinc 2 1, 3) := by decide +kernel
theorem d26_26 : decode jdk_56_method_4_code 26 = .ok (.goto (-18), 3) := by decide +kernel
theorem d26_29 : decode jdk_56_method_4_code 29 = .ok (.new 12, 3) := by decide +kernel
theorem d26_32 : decode jdk_56_method_4_code 32 = .ok (.dup, 1) := by decide +kernel
theorem d26_33 : decode jdk_56_method_4_code 33 = .ok (.aload_n 1, 1) := by decide +kernel
theorem d26_34 : decode jdk_56_method_4_code 34 = .ok (.iconst 0, 1) := by decide +kernel
theorem d26_35 : decode jdk_56_method_4_code 35 = .ok (.invokespecial 43, 3) := by decide +kernel
theorem pd_22 : parseMethodDescriptor "([Ljava/lang/Object;Z)V" = some ⟨[(.array (.object "java/lang/Object")), .boolean], none⟩ := by decide +kernel
theorem d26_38 : decode jdk_56_method_4_code 38 = .ok (.areturn, 1) := by decide +kernel
set_option maxRecDepth 65536 in
set_option maxHeartbeats 40000000 in
theorem fromA_3 (l : Launch) (Z : State) (a0 : Array Value) (hw : ∀ d ∈ tables_1, d.before a0 Z = true) (n0 : Nat) (h : Heap) (O : Old Z n0 h) (s_DEF : Addr) (s_EL : Addr) (s_EA : Addr) (s_EM : Addr) (cs : Int32) (mr : Addr) (H : En Z s_DEF s_EL s_EA s_EM cs mr) (g : Addr) (kG : ClassId) (x0 x1 x2 : Addr) (Ex0 : Exa Z h x0 "com/example/plumbline/plumbline/Band") (Ex1 : Exa Z h x1 "com/example/plumbline/plumbline/Band") (Ex2 : Exa Z h x2 "com/example/plumbline/plumbline/Band") (A1 : Arv Z h g kG (.object "java/lang/Object") (3 : Int32) [(.ref x0), (.ref x1), (.ref x2)] .null) : Con l Z (⟨"java/util/ImmutableCollections", "listFromArray", "([Ljava/lang/Object;)Ljava/util/List;"⟩ : MethodName) jdk_56_method_4_code 3 (some (.object "java/util/List")) ({ frames := 5, cells := 2, slots := 5, locals := 63 } : Room) #[(.ref g)] h n0 (fun v h' => ∃ L ar kA, v = some (.ref L) ∧ h.size ≤ L ∧ h.size ≤ ar ∧ Keep h h' [] ∧ Exa Z h' L "java/util/ImmutableCollections$ListN" ∧ Fld Z h' L "java/util/ImmutableCollections$ListN" "elements" "[Ljava/lang/Object;" (.ref ar) ∧ Arv Z h' ar kA (.object "java/lang/Object") (3 : Int32) [(.ref x0), (.ref x1), (.ref x2)] .null) := by
  refine Con.mk (Ls := #[.val (.ref g), .unset, .unset]) (plainFor_of_name pn_12) (fun m => by first | (simp [entryFrame, mkF, argsToLocals, Value.category]; done) | rfl) (fun w C => ?_)
  replace C : Cx w l Z "java/util/ImmutableCollections" jdk_56_method_4_code 3 (some (.object "java/util/List")) "listFromArray" ({ frames := 5, cells := 2, slots := 5, locals := 63 } : Room) n0 := C
  obtain ⟨S_DEF, E_DEF, V_DEF, S_EL, E_EL, F_EL, V_EA, S_EM, E_EM, S_CS, hcs, MIR⟩ := id H
  obtain ⟨kD, V_DEF⟩ := V_DEF
  obtain ⟨kEA, V_EA⟩ := V_EA
  refine g_aloadN C (pc' := 1) d26_0 rfl rfl rfl ?_
  refine g_alen C (pc' := 2) d26_1 rfl A1 rfl ?_
  refine g_newRE C (pc' := 5) (k' := 1) (n' := 3) (cap := 3) (ad := "[Ljava/lang/Object;") (wd hw 185 rfl) (wd hw 111 rfl) (by decide) d26_2 rfl (by decide) (by decide) (by decide) (by decide) (by decide) rfl rfl rfl (fun h599 b600 kA601 ex602 E603 A604 B606 Ov605 => ?_)
  have ne_g_b600 : g ≠ b600 := Nat.ne_of_lt (by rw [ex602]; exact A1.lt)
  have ne_x0_b600 : x0 ≠ b600 := Nat.ne_of_lt (by rw [ex602]; exact Ex0.lt)
  have ne_x1_b600 : x1 ≠ b600 := Nat.ne_of_lt (by rw [ex602]; exact Ex1.lt)
  have ne_x2_b600 : x2 ≠ b600 := Nat.ne_of_lt (by rw [ex602]; exact Ex2.lt)
  have ge_b600 : n0 ≤ b600 := by rw [ex602]; exact O.1 ▸ O.2.1
  have sz_b600 : h.size ≤ b600 := by rw [ex602]; exact (Keep.refl h []).1
  have f607 := O.ext E603
  have f608 := (Keep.refl h []).ext E603
  have f609 := A1.ext E603
  have f610 := Ex0.ext E603
  have f611 := Ex1.ext E603
  have f612 := Ex2.ext E603
  have A613 : Arv Z h599 b600 kA601 (.object "java/lang/Object") (3 : Int32) [.null, .null, .null] .null := A604.pad (pad_rep [] .null 3)
  refine g_astoreN C (pc' := 6) (Ls' := #[.val (.ref g), .val (.ref b600), .unset]) d26_5 rfl rfl rfl rfl ?_
  refine g_iconst C (pc' := 7) (v := (0 : Int32)) d26_6 (by decide) rfl ?_
  refine g_istoreN C (pc' := 8) (Ls' := #[.val (.ref g), .val (.ref b600), .val (.int (0 : Int32))]) d26_7 rfl rfl rfl ?_
  refine g_iloadN C (pc' := 9) d26_8 rfl rfl ?_
  refine g_aloadN C (pc' := 10) d26_9 rfl rfl rfl ?_
  refine g_alen C (pc' := 11) d26_10 rfl f609 rfl ?_
  refine g_icN C (pc' := 14) d26_11 rfl (by decide) rfl ?_
  refine g_aloadN C (pc' := 15) d26_14 rfl rfl rfl ?_
  refine g_iloadN C (pc' := 16) d26_15 rfl rfl ?_
  refine g_aloadN C (pc' := 17) d26_16 rfl rfl rfl ?_
  refine g_iloadN C (pc' := 18) d26_17 rfl rfl ?_
  refine g_aaload C (pc' := 19) (x := (.ref x0)) d26_18 rfl f609 rfl (by decide) (by decide) rfl rfl ?_
  refine g_callS C (pc' := 22) (k' := 1) (n' := 3) (argsL := [(.ref x0)]) (rest := [(.int (0 : Int32)), (.ref b600)]) (wd hw 186 rfl) (wd hw 187 rfl) (wd hw 188 rfl) (wd hw 189 rfl) (by decide) d26_19 pd_21 rfl rfl rfl (rnn l Z a0 hw n0 h599 f607 s_DEF s_EL s_EA s_EM cs mr H x0) (Nat.le_of_ble_eq_true rfl) (Nat.le_of_ble_eq_true rfl) (Nat.le_of_ble_eq_true rfl) (Nat.le_of_ble_eq_true rfl) rfl rfl rfl (fun v615 h614 q616 => ?_)
  obtain ⟨rfl, eh614⟩ := q616
  subst h614
  show G w _ h599 1 3 22 #[.val (.ref g), .val (.ref b600), .val (.int (0 : Int32))] [(.ref x0), (.int (0 : Int32)), (.ref b600)]
  refine g_aastore C (pc' := 23) d26_22 rfl A613 rfl (stoR A613 Ov605 (Ins.of_exa f610 (wd hw 112 rfl))) (by decide) (by decide) ge_b600 rfl (fun h617 W618 => ?_)
  have f619 := f607.wr W618 ge_b600
  have f620 := f608.wr W618 (Or.inr sz_b600)
  have f621 := f609.other W618 ne_g_b600
  have f622 := f610.wr W618
  have f623 := f611.wr W618
  have f624 := f612.wr W618
  have f625 := (arv_put A613 rfl W618 (i := 0) rfl (Nat.le_of_ble_eq_true rfl) : Arv Z h617 b600 kA601 (.object "java/lang/Object") (3 : Int32) [(.ref x0), .null, .null] .null)
  have f626 := B606.wr W618
  refine g_iinc C (pc' := 26) (Ls' := #[.val (.ref g), .val (.ref b600), .val (.int (1 : Int32))]) d26_23 rfl rfl rfl ?_
  refine g_goto C (pc' := 8) d26_26 (by decide) rfl ?_
  refine g_iloadN C (pc' := 9) d26_8 rfl rfl ?_
  refine g_aloadN C (pc' := 10) d26_9 rfl rfl rfl ?_
  refine g_alen C (pc' := 11) d26_10 rfl f621 rfl ?_
  refine g_icN C (pc' := 14) d26_11 rfl (by decide) rfl ?_
  refine g_aloadN C (pc' := 15) d26_14 rfl rfl rfl ?_
  refine g_iloadN C (pc' := 16) d26_15 rfl rfl ?_
  refine g_aloadN C (pc' := 17) d26_16 rfl rfl rfl ?_
  refine g_iloadN C (pc' := 18) d26_17 rfl rfl ?_
  refine g_aaload C (pc' := 19) (x := (.ref x1)) d26_18 rfl f621 rfl (by decide) (by decide) rfl rfl ?_
  refine g_callS C (pc' := 22) (k' := 1) (n' := 3) (argsL := [(.ref x1)]) (rest := [(.int (1 : Int32)), (.ref b600)]) (wd hw 186 rfl) (wd hw 187 rfl) (wd hw 188 rfl) (wd hw 189 rfl) (by decide) d26_19 pd_21 rfl rfl rfl (rnn l Z a0 hw n0 h617 f619 s_DEF s_EL s_EA s_EM cs mr H x1) (Nat.le_of_ble_eq_true rfl) (Nat.le_of_ble_eq_true rfl) (Nat.le_of_ble_eq_true rfl) (Nat.le_of_ble_eq_true rfl) rfl rfl rfl (fun v628 h627 q629 => ?_)
  obtain ⟨rfl, eh627⟩ := q629
  subst h627
  show G w _ h617 1 3 22 #[.val (.ref g), .val (.ref b600), .val (.int (1 : Int32))] [(.ref x1), (.int (1 : Int32)), (.ref b600)]
  refine g_aastore C (pc' := 23) d26_22 rfl f625 rfl (stoR f625 Ov605 (Ins.of_exa f623 (wd hw 112 rfl))) (by decide) (by decide) ge_b600 rfl (fun h630 W631 => ?_)
  have f632 := f619.wr W631 ge_b600
  have f633 := f620.wr W631 (Or.inr sz_b600)
  have f634 := f621.other W631 ne_g_b600
  have f635 := f622.wr W631
  have f636 := f623.wr W631
  have f637 := f624.wr W631
  have f638 := (arv_put f625 rfl W631 (i := 1) rfl (Nat.le_of_ble_eq_true rfl) : Arv Z h630 b600 kA601 (.object "java/lang/Object") (3 : Int32) [(.ref x0), (.ref x1), .null] .null)
  have f639 := f626.wr W631
  refine g_iinc C (pc' := 26) (Ls' := #[.val (.ref g), .val (.ref b600), .val (.int (2 : Int32))]) d26_23 rfl rfl rfl ?_
  refine g_goto C (pc' := 8) d26_26 (by decide) rfl ?_
  refine g_iloadN C (pc' := 9) d26_8 rfl rfl ?_
  refine g_aloadN C (pc' := 10) d26_9 rfl rfl rfl ?_
  refine g_alen C (pc' := 11) d26_10 rfl f634 rfl ?_
  refine g_icN C (pc' := 14) d26_11 rfl (by decide) rfl ?_
  refine g_aloadN C (pc' := 15) d26_14 rfl rfl rfl ?_
  refine g_iloadN C (pc' := 16) d26_15 rfl rfl ?_
  refine g_aloadN C (pc' := 17) d26_16 rfl rfl rfl ?_
  refine g_iloadN C (pc' := 18) d26_17 rfl rfl ?_
  refine g_aaload C (pc' := 19) (x := (.ref x2)) d26_18 rfl f634 rfl (by decide) (by decide) rfl rfl ?_
  refine g_callS C (pc' := 22) (k' := 1) (n' := 3) (argsL := [(.ref x2)]) (rest := [(.int (2 : Int32)), (.ref b600)]) (wd hw 186 rfl) (wd hw 187 rfl) (wd hw 188 rfl) (wd hw 189 rfl) (by decide) d26_19 pd_21 rfl rfl rfl (rnn l Z a0 hw n0 h630 f632 s_DEF s_EL s_EA s_EM cs mr H x2) (Nat.le_of_ble_eq_true rfl) (Nat.le_of_ble_eq_true rfl) (Nat.le_of_ble_eq_true rfl) (Nat.le_of_ble_eq_true rfl) rfl rfl rfl (fun v641 h640 q642 => ?_)
  obtain ⟨rfl, eh640⟩ := q642
  subst h640
  show G w _ h630 1 3 22 #[.val (.ref g), .val (.ref b600), .val (.int (2 : Int32))] [(.ref x2), (.int (2 : Int32)), (.ref b600)]
  refine g_aastore C (pc' := 23) d26_22 rfl f638 rfl (stoR f638 Ov605 (Ins.of_exa f637 (wd hw 112 rfl))) (by decide) (by decide) ge_b600 rfl (fun h643 W644 => ?_)
  have f645 := f632.wr W644 ge_b600
  have f646 := f633.wr W644 (Or.inr sz_b600)
  have f647 := f634.other W644 ne_g_b600
  have f648 := f635.wr W644
  have f649 := f636.wr W644
  have f650 := f637.wr W644
  have f651 := (arv_put f638 rfl W644 (i := 2) rfl (Nat.le_of_ble_eq_true rfl) : Arv Z h643 b600 kA601 (.object "java/lang/Object") (3 : Int32) [(.ref x0), (.ref x1), (.ref x2)] .null)
  have f652 := f639.wr W644
  refine g_iinc C (pc' := 26) (Ls' := #[.val (.ref g), .val (.ref b600), .val (.int (3 : Int32))]) d26_23 rfl rfl rfl ?_
  refine g_goto C (pc' := 8) d26_26 (by decide) rfl ?_
  refine g_iloadN C (pc' := 9) d26_8 rfl rfl ?_
  refine g_aloadN C (pc' := 10) d26_9 rfl rfl rfl ?_
  refine g_alen C (pc' := 11) d26_10 rfl f647 rfl ?_
  refine g_icY C (pc' := 29) d26_11 rfl (by decide) (by decide) rfl ?_
  refine g_new C (pc' := 32) (k' := 2) (n' := 5) (wd hw 133 rfl) (wd hw 190 rfl) (wd hw 191 rfl) d26_29 (by decide) (by decide) rfl rfl rfl (fun h653 b654 ex655 E656 A657 D658 => ?_)
  have ne_g_b654 : g ≠ b654 := Nat.ne_of_lt (by rw [ex655]; exact f647.lt)
  have ne_x0_b654 : x0 ≠ b654 := Nat.ne_of_lt (by rw [ex655]; exact f648.lt)
  have ne_x1_b654 : x1 ≠ b654 := Nat.ne_of_lt (by rw [ex655]; exact f649.lt)
  have ne_x2_b654 : x2 ≠ b654 := Nat.ne_of_lt (by rw [ex655]; exact f650.lt)
  have ne_b600_b654 : b600 ≠ b654 := Nat.ne_of_lt (by rw [ex655]; exact f651.lt)
  have ge_b654 : n0 ≤ b654 := by rw [ex655]; exact f645.1 ▸ f645.2.1
  have sz_b654 : h.size ≤ b654 := by rw [ex655]; exact f646.1
  have f659 := f645.ext E656
  have f660 := f646.ext E656
  have f661 := f647.ext E656
  have f662 := f648.ext E656
  have f663 := f649.ext E656
  have f664 := f650.ext E656
  have f665 := f651.ext E656
  have f666 := f652.ext E656
  have F_elements_b654 : Fld Z h653 b654 "java/util/ImmutableCollections$ListN" "elements" "[Ljava/lang/Object;" .null := D658 (Or.inr (wd hw 211 rfl)) (ty := (.array (.object "java/lang/Object"))) (by decide)
  have F_allowNulls_b654 : Fld Z h653 b654 "java/util/ImmutableCollections$ListN" "allowNulls" "Z" (.int (0 : Int32)) := D658 (Or.inr (wd hw 213 rfl)) (ty := .boolean) (by decide)
  refine g_dup C (pc' := 33) d26_32 rfl rfl rfl ?_
  refine g_aloadN C (pc' := 34) d26_33 rfl rfl rfl ?_
  refine g_iconst C (pc' := 35) (v := (0 : Int32)) d26_34 (by decide) rfl ?_
  refine g_specialNest C (pc' := 38) (k' := 2) (n' := 5) (argsL := [(.ref b600), (.int (0 : Int32))]) (rest := [(.ref b654)]) (wd hw 192 rfl) (wd hw 193 rfl) (wd hw 191 rfl) (wd hw 195 rfl) (by decide) rfl d26_35 pd_22 rfl rfl rfl (lN l Z a0 hw n0 h653 f659 s_DEF s_EL s_EA s_EM cs mr H b654 b600 ge_b654 A657 F_elements_b654 F_allowNulls_b654) (Nat.le_of_ble_eq_true rfl) (Nat.le_of_ble_eq_true rfl) (Nat.le_of_ble_eq_true rfl) (Nat.le_of_ble_eq_true rfl) rfl rfl rfl (fun v668 h667 q669 => ?_)
  obtain ⟨rfl, k1, k2, k3⟩ := q669
  have f670 := f659.keep k1 (allS ge_b654 all0)
  have f671 := f660.trans k1 (allS (Or.inr sz_b654) all0)
  have f672 := f661.keep k1 (ninS ne_g_b654 nin0)
  have f673 := f662.keep k1
  have f674 := f663.keep k1
  have f675 := f664.keep k1
  have f676 := f665.keep k1 (ninS ne_b600_b654 nin0)
  have f677 := f666.keep k1
  have f678 := A657.keep k1
  show G w _ h667 2 5 38 #[.val (.ref g), .val (.ref b600), .val (.int (3 : Int32))] [(.ref b654)]
  exact g_areturn C d26_38 rfl rfl rfl rfl (Nat.le_of_ble_eq_true rfl) (Nat.le_of_ble_eq_true rfl) (⟨b654, b600, kA601, rfl, sz_b654, sz_b600, f671, k2, k3, f676⟩)
theorem d25_59 : decode jdk_40_method_47_code 59 = .ok (.aload_n 0, 1) := by decide +kernel
theorem d25_60 : decode jdk_40_method_47_code 60 = .ok (.invokestatic 109, 3) := by decide +kernel
theorem d25_63 : decode jdk_40_method_47_code 63 = .ok (.areturn, 1) := by decide +kernel
set_option maxRecDepth 65536 in
set_option maxHeartbeats 40000000 in
theorem lofA_3 (l : Launch) (Z : State) (a0 : Array Value) (hw : ∀ d ∈ tables_1, d.before a0 Z = true) (n0 : Nat) (h : Heap) (O : Old Z n0 h) (s_DEF : Addr) (s_EL : Addr) (s_EA : Addr) (s_EM : Addr) (cs : Int32) (mr : Addr) (H : En Z s_DEF s_EL s_EA s_EM cs mr) (g : Addr) (kG : ClassId) (x0 x1 x2 : Addr) (Ex0 : Exa Z h x0 "com/example/plumbline/plumbline/Band") (Ex1 : Exa Z h x1 "com/example/plumbline/plumbline/Band") (Ex2 : Exa Z h x2 "com/example/plumbline/plumbline/Band") (A1 : Arv Z h g kG (.object "java/lang/Object") (3 : Int32) [(.ref x0), (.ref x1), (.ref x2)] .null) : Con l Z (⟨"java/util/List", "of", "([Ljava/lang/Object;)Ljava/util/List;"⟩ : MethodName) jdk_40_method_47_code 2 (some (.object "java/util/List")) ({ frames := 6, cells := 2, slots := 5, locals := 77 } : Room) #[(.ref g)] h n0 (fun v h' => ∃ L ar kA, v = some (.ref L) ∧ h.size ≤ L ∧ h.size ≤ ar ∧ Keep h h' [] ∧ Exa Z h' L "java/util/ImmutableCollections$ListN" ∧ Fld Z h' L "java/util/ImmutableCollections$ListN" "elements" "[Ljava/lang/Object;" (.ref ar) ∧ Arv Z h' ar kA (.object "java/lang/Object") (3 : Int32) [(.ref x0), (.ref x1), (.ref x2)] .null) := by
  refine Con.mk (Ls := #[.val (.ref g), .unset]) (plainFor_of_name pn_17) (fun m => by first | (simp [entryFrame, mkF, argsToLocals, Value.category]; done) | rfl) (fun w C => ?_)
  replace C : Cx w l Z "java/util/List" jdk_40_method_47_code 2 (some (.object "java/util/List")) "of" ({ frames := 6, cells := 2, slots := 5, locals := 77 } : Room) n0 := C
  obtain ⟨S_DEF, E_DEF, V_DEF, S_EL, E_EL, F_EL, V_EA, S_EM, E_EM, S_CS, hcs, MIR⟩ := id H
  obtain ⟨kD, V_DEF⟩ := V_DEF
  obtain ⟨kEA, V_EA⟩ := V_EA
  refine g_aloadN C (pc' := 1) d25_0 rfl rfl rfl ?_
  refine g_alen C (pc' := 2) d25_1 rfl A1 rfl ?_
  refine g_tswOut C (pc' := 59) d25_2 rfl (by decide) (by decide) rfl ?_
  refine g_aloadN C (pc' := 60) d25_59 rfl rfl rfl ?_
  refine g_callS C (pc' := 63) (k' := 2) (n' := 5) (argsL := [(.ref g)]) (rest := []) (wd hw 182 rfl) (wd hw 183 rfl) (wd hw 126 rfl) (wd hw 184 rfl) (by decide) d25_60 pd_20 rfl rfl rfl (fromA_3 l Z a0 hw n0 h O s_DEF s_EL s_EA s_EM cs mr H g kG x0 x1 x2 Ex0 Ex1 Ex2 A1) (Nat.le_of_ble_eq_true rfl) (Nat.le_of_ble_eq_true rfl) (Nat.le_of_ble_eq_true rfl) (Nat.le_of_ble_eq_true rfl) rfl rfl rfl (fun v680 h679 q681 => ?_)
  obtain ⟨L, ar, kA, rfl, q1, q2, q3, q4, q5, q6⟩ := q681
  show G w _ h679 2 5 63 #[.val (.ref g), .unset] [(.ref L)]
  exact g_areturn C d25_63 rfl rfl rfl rfl (Nat.le_of_ble_eq_true rfl) (Nat.le_of_ble_eq_true rfl) (⟨L, ar, kA, rfl, q1, q2, q3, q4, q5, q6⟩)
set_option maxRecDepth 65536 in
set_option maxHeartbeats 40000000 in
theorem lcp_3 (l : Launch) (Z : State) (a0 : Array Value) (hw : ∀ d ∈ tables_1, d.before a0 Z = true) (n0 : Nat) (h : Heap) (O : Old Z n0 h) (s_DEF : Addr) (s_EL : Addr) (s_EA : Addr) (s_EM : Addr) (cs : Int32) (mr : Addr) (H : En Z s_DEF s_EL s_EA s_EM cs mr) (a ed : Addr) (kE : ClassId) (mc : Int32) (x0 x1 x2 : Addr) (Ex0 : Exa Z h x0 "com/example/plumbline/plumbline/Band") (Ex1 : Exa Z h x1 "com/example/plumbline/plumbline/Band") (Ex2 : Exa Z h x2 "com/example/plumbline/plumbline/Band") (P : AL1 Z n0 h a ed kE mc (3 : Int32) [(.ref x0), (.ref x1), (.ref x2), .null, .null, .null, .null, .null, .null, .null]) : Con l Z (⟨"java/util/ImmutableCollections", "listCopy", "(Ljava/util/Collection;)Ljava/util/List;"⟩ : MethodName) jdk_56_method_3_code 2 (some (.object "java/util/List")) ({ frames := 7, cells := 3, slots := 8, locals := 90 } : Room) #[(.ref a)] h n0 (fun v h' => ∃ L ar kA, v = some (.ref L) ∧ h.size ≤ L ∧ h.size ≤ ar ∧ Keep h h' [] ∧ Exa Z h' L "java/util/ImmutableCollections$ListN" ∧ Fld Z h' L "java/util/ImmutableCollections$ListN" "elements" "[Ljava/lang/Object;" (.ref ar) ∧ Arv Z h' ar kA (.object "java/lang/Object") (3 : Int32) [(.ref x0), (.ref x1), (.ref x2)] .null) := by
  refine Con.mk (Ls := #[.val (.ref a), .unset]) (plainFor_of_name pn_12) (fun m => by first | (simp [entryFrame, mkF, argsToLocals, Value.category]; done) | rfl) (fun w C => ?_)
  replace C : Cx w l Z "java/util/ImmutableCollections" jdk_56_method_3_code 2 (some (.object "java/util/List")) "listCopy" ({ frames := 7, cells := 3, slots := 8, locals := 90 } : Room) n0 := C
  obtain ⟨S_DEF, E_DEF, V_DEF, S_EL, E_EL, F_EL, V_EA, S_EM, E_EM, S_CS, hcs, MIR⟩ := id H
  obtain ⟨kD, V_DEF⟩ := V_DEF
  obtain ⟨kEA, V_EA⟩ := V_EA
  have P0 := P
  obtain ⟨ga, ge, nae, Ov, E0, Ee, F1, F2, F3, A1⟩ := P
  refine g_aloadN C (pc' := 1) d18_0 rfl rfl rfl ?_
  refine g_instN C (pc' := 4) (wd hw 128 rfl) d18_1 rfl E0 (ns_no (wd hw 129 rfl) (wd hw 231 rfl) (NS.step (wd hw 129 rfl) (NS.step (wd hw 130 rfl) (NS.step (wd hw 131 rfl) (ns_root (wd hw 132 rfl) (wd hw 231 rfl) (by decide)) (by decide)) (by decide)) (by decide)) (by decide)) rfl ?_
  refine g_ifN C (pc' := 7) d18_4 rfl (by decide) rfl ?_
  refine g_aloadN C (pc' := 8) d18_7 rfl rfl rfl ?_
  refine g_instN C (pc' := 11) (wd hw 133 rfl) d18_8 rfl E0 (ns_no (wd hw 129 rfl) (wd hw 190 rfl) (NS.step (wd hw 129 rfl) (NS.step (wd hw 130 rfl) (NS.step (wd hw 131 rfl) (ns_root (wd hw 132 rfl) (wd hw 190 rfl) (by decide)) (by decide)) (by decide)) (by decide)) (by decide)) rfl ?_
  refine g_ifY C (pc' := 31) d18_11 rfl (by decide) (by decide) rfl ?_
  refine g_aloadN C (pc' := 32) d18_31 rfl rfl rfl ?_
  refine g_interface C (pc' := 37) (k' := 0) (n' := 0) (argsL := []) (rest := []) (wd hw 134 rfl) (wd hw 135 rfl) (wd hw 136 rfl) rfl (wd hw 137 rfl) (wd hw 138 rfl) (wd hw 139 rfl) (wd hw 140 rfl) (wd hw 141 rfl) (wd hw 56 rfl) (wd hw 142 rfl) (by decide) d18_32 pd_14 rfl rfl rfl E0 (alEmp_3 l Z a0 hw n0 h O s_DEF s_EL s_EA s_EM cs mr H a ed kE mc x0 x1 x2 P0) (Nat.le_of_ble_eq_true rfl) (Nat.le_of_ble_eq_true rfl) (Nat.le_of_ble_eq_true rfl) (Nat.le_of_ble_eq_true rfl) rfl rfl rfl (fun v683 h682 q684 => ?_)
  obtain ⟨rfl, eh682⟩ := q684
  subst h682
  show G w _ h 0 0 37 #[.val (.ref a), .unset] [(.int (0 : Int32))]
  refine g_ifY C (pc' := 44) d18_37 rfl (by decide) (by decide) rfl ?_
  refine g_aloadN C (pc' := 45) d18_44 rfl rfl rfl ?_
  refine g_interface C (pc' := 50) (k' := 1) (n' := 3) (argsL := []) (rest := []) (wd hw 149 rfl) (wd hw 150 rfl) (wd hw 151 rfl) rfl (wd hw 152 rfl) (wd hw 153 rfl) (wd hw 154 rfl) (wd hw 155 rfl) (wd hw 141 rfl) (wd hw 56 rfl) (wd hw 156 rfl) (by decide) d18_45 pd_9 rfl rfl rfl E0 (toA_3 l Z a0 hw n0 h O s_DEF s_EL s_EA s_EM cs mr H a ed kE mc x0 x1 x2 Ex0 Ex1 Ex2 P0) (Nat.le_of_ble_eq_true rfl) (Nat.le_of_ble_eq_true rfl) (Nat.le_of_ble_eq_true rfl) (Nat.le_of_ble_eq_true rfl) rfl rfl rfl (fun v686 h685 q687 => ?_)
  obtain ⟨g, kG, rfl, q1, q2, q3, q4⟩ := q687
  have ne_a_g : a ≠ g := Nat.ne_of_lt (Nat.lt_of_lt_of_le E0.lt q1)
  have ne_ed_g : ed ≠ g := Nat.ne_of_lt (Nat.lt_of_lt_of_le Ee.lt q1)
  have ne_x0_g : x0 ≠ g := Nat.ne_of_lt (Nat.lt_of_lt_of_le Ex0.lt q1)
  have ne_x1_g : x1 ≠ g := Nat.ne_of_lt (Nat.lt_of_lt_of_le Ex1.lt q1)
  have ne_x2_g : x2 ≠ g := Nat.ne_of_lt (Nat.lt_of_lt_of_le Ex2.lt q1)
  have ge_g : n0 ≤ g := Nat.le_trans (O.1 ▸ O.2.1) q1
  have sz_g : h.size ≤ g := Nat.le_trans (Keep.refl h []).1 q1
  have f688 := O.keep q2 all0
  have f689 := (Keep.refl h []).trans q2 all0
  have f690 := E0.keep q2
  have f691 := F1.keep q2 nin0
  have f692 := F2.keep q2 nin0
  have f693 := F3.keep q2 nin0
  have f694 := Ee.keep q2
  have f695 := A1.keep q2 nin0
  have f696 := Ex0.keep q2
  have f697 := Ex1.keep q2
  have f698 := Ex2.keep q2
  show G w _ h685 1 3 50 #[.val (.ref a), .unset] [(.ref g)]
  refine g_callS C (pc' := 53) (k' := 3) (n' := 8) (argsL := [(.ref g)]) (rest := []) (wd hw 179 rfl) (wd hw 180 rfl) (wd hw 122 rfl) (wd hw 181 rfl) (by decide) d18_50 pd_20 rfl rfl rfl (lofA_3 l Z a0 hw n0 h685 f688 s_DEF s_EL s_EA s_EM cs mr H g kG x0 x1 x2 f696 f697 f698 q4) (Nat.le_of_ble_eq_true rfl) (Nat.le_of_ble_eq_true rfl) (Nat.le_of_ble_eq_true rfl) (Nat.le_of_ble_eq_true rfl) rfl rfl rfl (fun v700 h699 q701 => ?_)
  obtain ⟨L, ar, kA, rfl, r1, r2, r3, r4, r5, r6⟩ := q701
  have u1 := Nat.le_trans q2.1 r1
  have f702 := f688.keep r3 all0
  have f703 := f689.trans r3 all0
  have f704 := f690.keep r3
  have f705 := f691.keep r3 nin0
  have f706 := f692.keep r3 nin0
  have f707 := f693.keep r3 nin0
  have f708 := f694.keep r3
  have f709 := f695.keep r3 nin0
  have f710 := f696.keep r3
  have f711 := f697.keep r3
  have f712 := f698.keep r3
  have f713 := q4.keep r3 nin0
  have u2 := Nat.le_trans q2.1 r2
  show G w _ h699 3 8 53 #[.val (.ref a), .unset] [(.ref L)]
  exact g_areturn C d18_53 rfl rfl rfl rfl (Nat.le_of_ble_eq_true rfl) (Nat.le_of_ble_eq_true rfl) (⟨L, ar, kA, rfl, u1, u2, f703, r4, r5, r6⟩)
set_option maxRecDepth 65536 in
set_option maxHeartbeats 40000000 in
theorem cpo_3 (l : Launch) (Z : State) (a0 : Array Value) (hw : ∀ d ∈ tables_1, d.before a0 Z = true) (n0 : Nat) (h : Heap) (O : Old Z n0 h) (s_DEF : Addr) (s_EL : Addr) (s_EA : Addr) (s_EM : Addr) (cs : Int32) (mr : Addr) (H : En Z s_DEF s_EL s_EA s_EM cs mr) (a ed : Addr) (kE : ClassId) (mc : Int32) (x0 x1 x2 : Addr) (Ex0 : Exa Z h x0 "com/example/plumbline/plumbline/Band") (Ex1 : Exa Z h x1 "com/example/plumbline/plumbline/Band") (Ex2 : Exa Z h x2 "com/example/plumbline/plumbline/Band") (P : AL1 Z n0 h a ed kE mc (3 : Int32) [(.ref x0), (.ref x1), (.ref x2), .null, .null, .null, .null, .null, .null, .null]) : Con l Z (⟨"java/util/List", "copyOf", "(Ljava/util/Collection;)Ljava/util/List;"⟩ : MethodName) jdk_40_method_48_code 1 (some (.object "java/util/List")) ({ frames := 8, cells := 3, slots := 8, locals := 103 } : Room) #[(.ref a)] h n0 (fun v h' => ∃ L ar kA, v = some (.ref L) ∧ h.size ≤ L ∧ h.size ≤ ar ∧ Keep h h' [] ∧ Exa Z h' L "java/util/ImmutableCollections$ListN" ∧ Fld Z h' L "java/util/ImmutableCollections$ListN" "elements" "[Ljava/lang/Object;" (.ref ar) ∧ Arv Z h' ar kA (.object "java/lang/Object") (3 : Int32) [(.ref x0), (.ref x1), (.ref x2)] .null) := by
  refine Con.mk (Ls := #[.val (.ref a)]) (plainFor_of_name pn_17) (fun m => by first | (simp [entryFrame, mkF, argsToLocals, Value.category]; done) | rfl) (fun w C => ?_)
  replace C : Cx w l Z "java/util/List" jdk_40_method_48_code 1 (some (.object "java/util/List")) "copyOf" ({ frames := 8, cells := 3, slots := 8, locals := 103 } : Room) n0 := C
  obtain ⟨S_DEF, E_DEF, V_DEF, S_EL, E_EL, F_EL, V_EA, S_EM, E_EM, S_CS, hcs, MIR⟩ := id H
  obtain ⟨kD, V_DEF⟩ := V_DEF
  obtain ⟨kEA, V_EA⟩ := V_EA
  refine g_aloadN C (pc' := 1) d17_0 rfl rfl rfl ?_
  refine g_callS C (pc' := 4) (k' := 3) (n' := 8) (argsL := [(.ref a)]) (rest := []) (wd hw 124 rfl) (wd hw 125 rfl) (wd hw 126 rfl) (wd hw 127 rfl) (by decide) d17_1 pd_13 rfl rfl rfl (lcp_3 l Z a0 hw n0 h O s_DEF s_EL s_EA s_EM cs mr H a ed kE mc x0 x1 x2 Ex0 Ex1 Ex2 P) (Nat.le_of_ble_eq_true rfl) (Nat.le_of_ble_eq_true rfl) (Nat.le_of_ble_eq_true rfl) (Nat.le_of_ble_eq_true rfl) rfl rfl rfl (fun v715 h714 q716 => ?_)
  obtain ⟨L, ar, kA, rfl, q1, q2, q3, q4, q5, q6⟩ := q716
  show G w _ h714 3 8 4 #[.val (.ref a)] [(.ref L)]
  exact g_areturn C d17_4 rfl rfl rfl rfl (Nat.le_of_ble_eq_true rfl) (Nat.le_of_ble_eq_true rfl) (⟨L, ar, kA, rfl, q1, q2, q3, q4, q5, q6⟩)
theorem d32_0 : decode jdk_45_method_2_code 0 = .ok (.aload_n 0, 1) := by decide +kernel
theorem d32_1 : decode jdk_45_method_2_code 1 = .ok (.getfield 7, 3) := by decide +kernel
theorem d32_4 : decode jdk_45_method_2_code 4 = .ok (.arraylength, 1) := by decide +kernel
theorem d32_5 : decode jdk_45_method_2_code 5 = .ok (.ifCond .ne 7, 3) := by decide +kernel
theorem d32_8 : decode jdk_45_method_2_code 8 = .ok (.iconst 1, 1) := by decide +kernel
theorem d32_9 : decode jdk_45_method_2_code 9 = .ok (.goto 4, 3) := by decide +kernel
theorem d32_13 : decode jdk_45_method_2_code 13 = .ok (.ireturn, 1) := by decide +kernel
set_option maxRecDepth 65536 in
set_option maxHeartbeats 40000000 in
theorem lnE_0 (l : Launch) (Z : State) (a0 : Array Value) (hw : ∀ d ∈ tables_1, d.before a0 Z = true) (n0 : Nat) (h : Heap) (O : Old Z n0 h) (s_DEF : Addr) (s_EL : Addr) (s_EA : Addr) (s_EM : Addr) (cs : Int32) (mr : Addr) (H : En Z s_DEF s_EL s_EA s_EM cs mr) : Con l Z (⟨"java/util/ImmutableCollections$ListN", "isEmpty", "()Z"⟩ : MethodName) jdk_45_method_2_code 1 (some .boolean) ({ frames := 0, cells := 0, slots := 0, locals := 0 } : Room) #[(.ref s_EL)] h n0 (fun v h' => v = some (.int (1 : Int32)) ∧ h' = h) := by
  refine Con.mk (Ls := #[.val (.ref s_EL)]) (plainFor_of_name pn_16) (fun m => by first | (simp [entryFrame, mkF, argsToLocals, Value.category]; done) | rfl) (fun w C => ?_)
  replace C : Cx w l Z "java/util/ImmutableCollections$ListN" jdk_45_method_2_code 1 (some .boolean) "isEmpty" ({ frames := 0, cells := 0, slots := 0, locals := 0 } : Room) n0 := C
  obtain ⟨S_DEF, E_DEF, V_DEF, S_EL, E_EL, F_EL, V_EA, S_EM, E_EM, S_CS, hcs, MIR⟩ := id H
  obtain ⟨kD, V_DEF⟩ := V_DEF
  obtain ⟨kEA, V_EA⟩ := V_EA
  refine g_aloadN C (pc' := 1) d32_0 rfl rfl rfl ?_
  refine g_getF C (pc' := 4) (wd hw 210 rfl) Via.refl d32_1 rfl (F_EL.ext O.2) rfl ?_
  refine g_alen C (pc' := 5) d32_4 rfl (V_EA.ext O.2) rfl ?_
  refine g_ifN C (pc' := 8) d32_5 rfl (by decide) rfl ?_
  refine g_iconst C (pc' := 9) (v := (1 : Int32)) d32_8 (by decide) rfl ?_
  refine g_goto C (pc' := 13) d32_9 (by decide) rfl ?_
  exact g_zreturn C d32_13 rfl rfl (Nat.le_of_ble_eq_true rfl) (Nat.le_of_ble_eq_true rfl) (⟨rfl, rfl⟩)
theorem d32_12 : decode jdk_45_method_2_code 12 = .ok (.iconst 0, 1) := by decide +kernel
set_option maxRecDepth 65536 in
set_option maxHeartbeats 40000000 in
theorem lnE_3 (l : Launch) (Z : State) (a0 : Array Value) (hw : ∀ d ∈ tables_1, d.before a0 Z = true) (n0 : Nat) (h : Heap) (O : Old Z n0 h) (s_DEF : Addr) (s_EL : Addr) (s_EA : Addr) (s_EM : Addr) (cs : Int32) (mr : Addr) (H : En Z s_DEF s_EL s_EA s_EM cs mr) (L ar : Addr) (kA : ClassId) (x0 x1 x2 : Addr) (F0 : Fld Z h L "java/util/ImmutableCollections$ListN" "elements" "[Ljava/lang/Object;" (.ref ar)) (A1 : Arv Z h ar kA (.object "java/lang/Object") (3 : Int32) [(.ref x0), (.ref x1), (.ref x2)] .null) : Con l Z (⟨"java/util/ImmutableCollections$ListN", "isEmpty", "()Z"⟩ : MethodName) jdk_45_method_2_code 1 (some .boolean) ({ frames := 0, cells := 0, slots := 0, locals := 0 } : Room) #[(.ref L)] h n0 (fun v h' => v = some (.int (0 : Int32)) ∧ h' = h) := by
  refine Con.mk (Ls := #[.val (.ref L)]) (plainFor_of_name pn_16) (fun m => by first | (simp [entryFrame, mkF, argsToLocals, Value.category]; done) | rfl) (fun w C => ?_)
  replace C : Cx w l Z "java/util/ImmutableCollections$ListN" jdk_45_method_2_code 1 (some .boolean) "isEmpty" ({ frames := 0, cells := 0, slots := 0, locals := 0 } : Room) n0 := C
  obtain ⟨S_DEF, E_DEF, V_DEF, S_EL, E_EL, F_EL, V_EA, S_EM, E_EM, S_CS, hcs, MIR⟩ := id H
  obtain ⟨kD, V_DEF⟩ := V_DEF
  obtain ⟨kEA, V_EA⟩ := V_EA
  refine g_aloadN C (pc' := 1) d32_0 rfl rfl rfl ?_
  refine g_getF C (pc' := 4) (wd hw 210 rfl) Via.refl d32_1 rfl F0 rfl ?_
  refine g_alen C (pc' := 5) d32_4 rfl A1 rfl ?_
  refine g_ifY C (pc' := 12) d32_5 rfl (by decide) (by decide) rfl ?_
  refine g_iconst C (pc' := 13) (v := (0 : Int32)) d32_12 (by decide) rfl ?_
  exact g_zreturn C d32_13 rfl rfl (Nat.le_of_ble_eq_true rfl) (Nat.le_of_ble_eq_true rfl) (⟨rfl, rfl⟩)
theorem d34_0 : decode jdk_44_method_4_code 0 = .ok (.iconst 0, 1) := by decide +kernel
theorem d34_1 : decode jdk_44_method_4_code 1 = .ok (.ireturn, 1) := by decide +kernel
set_option maxRecDepth 65536 in
set_option maxHeartbeats 40000000 in
theorem l12E (l : Launch) (Z : State) (a0 : Array Value) (hw : ∀ d ∈ tables_1, d.before a0 Z = true) (n0 : Nat) (h : Heap) (O : Old Z n0 h) (s_DEF : Addr) (s_EL : Addr) (s_EA : Addr) (s_EM : Addr) (cs : Int32) (mr : Addr) (H : En Z s_DEF s_EL s_EA s_EM cs mr) (L : Addr) : Con l Z (⟨"java/util/ImmutableCollections$List12", "isEmpty", "()Z"⟩ : MethodName) jdk_44_method_4_code 1 (some .boolean) ({ frames := 0, cells := 0, slots := 0, locals := 0 } : Room) #[(.ref L)] h n0 (fun v h' => v = some (.int (0 : Int32)) ∧ h' = h) := by
  refine Con.mk (Ls := #[.val (.ref L)]) (plainFor_of_name pn_15) (fun m => by first | (simp [entryFrame, mkF, argsToLocals, Value.category]; done) | rfl) (fun w C => ?_)
  replace C : Cx w l Z "java/util/ImmutableCollections$List12" jdk_44_method_4_code 1 (some .boolean) "isEmpty" ({ frames := 0, cells := 0, slots := 0, locals := 0 } : Room) n0 := C
  obtain ⟨S_DEF, E_DEF, V_DEF, S_EL, E_EL, F_EL, V_EA, S_EM, E_EM, S_CS, hcs, MIR⟩ := id H
  refine g_iconst C (pc' := 1) (v := (0 : Int32)) d34_0 (by decide) rfl ?_
  exact g_zreturn C d34_1 rfl rfl (Nat.le_of_ble_eq_true rfl) (Nat.le_of_ble_eq_true rfl) (⟨rfl, rfl⟩)
theorem d16_0 : decode prog_32_method_1_code 0 = .ok (.aload_n 0, 1) := by decide +kernel
theorem d16_1 : decode prog_32_method_1_code 1 = .ok (.invokespecial 1, 3) := by decide +kernel
theorem d16_4 : decode prog_32_method_1_code 4 = .ok (.aload_n 0, 1) := by decide +kernel
theorem d16_5 : decode prog_32_method_1_code 5 = .ok (.aload_n 1, 1) := by decide +kernel
theorem d16_6 : decode prog_32_method_1_code 6 = .ok (.invokestatic 7, 3) := by decide +kernel
theorem d16_9 : decode prog_32_method_1_code 9 = .ok (.putfield 13, 3) := by decide +kernel
theorem d16_12 : decode prog_32_method_1_code 12 = .ok (.aload_n 0, 1) := by decide +kernel
theorem d16_13 : decode prog_32_method_1_code 13 = .ok (.aload_n 2, 1) := by decide +kernel
theorem d16_14 : decode prog_32_method_1_code 14 = .ok (.invokestatic 7, 3) := by decide +kernel
theorem d16_17 : decode prog_32_method_1_code 17 = .ok (.putfield 19, 3) := by decide +kernel
theorem d16_20 : decode prog_32_method_1_code 20 = .ok (.return_, 1) := by decide +kernel
theorem pn_2 : plainName "com/example/plumbline/plumbline/Grades" = true := by first | (simp [plainName, overriddenIn]; done) | decide +kernel
set_option maxRecDepth 65536 in
set_option maxHeartbeats 40000000 in
theorem gsI_00 (l : Launch) (Z : State) (a0 : Array Value) (hw : ∀ d ∈ tables_1, d.before a0 Z = true) (n0 : Nat) (h : Heap) (O : Old Z n0 h) (s_DEF : Addr) (s_EL : Addr) (s_EA : Addr) (s_EM : Addr) (cs : Int32) (mr : Addr) (H : En Z s_DEF s_EL s_EA s_EM cs mr) (a x : Addr) (ga : n0 ≤ a) (ua : Addr) (umc : Int32) (va : Addr) (vmc : Int32) (E0 : Exa Z h a "com/example/plumbline/plumbline/Grades") (F1 : Fld Z h a "com/example/plumbline/plumbline/Grades" "area" "Ljava/util/List;" .null) (F2 : Fld Z h a "com/example/plumbline/plumbline/Grades" "total" "Ljava/util/List;" .null) (Ex : Exa Z h x "com/example/plumbline/plumbline/Band") (uP : AL0 Z n0 h ua s_DEF umc) (vP : AL0 Z n0 h va s_DEF vmc) (nau : a ≠ ua) (nav : a ≠ va) : Con l Z (⟨"com/example/plumbline/plumbline/Grades", "<init>", "(Ljava/util/List;Ljava/util/List;)V"⟩ : MethodName) prog_32_method_1_code 3 none ({ frames := 3, cells := 0, slots := 0, locals := 38 } : Room) #[(.ref a), (.ref ua), (.ref va)] h n0 (fun v h' => v = none ∧ Keep h h' [a] ∧ Exa Z h' a "com/example/plumbline/plumbline/Grades" ∧ Fld Z h' a "com/example/plumbline/plumbline/Grades" "area" "Ljava/util/List;" (.ref s_EL)) := by
  refine Con.mk (Ls := #[.val (.ref a), .val (.ref ua), .val (.ref va)]) (plainFor_of_name pn_2) (fun m => by first | (simp [entryFrame, mkF, argsToLocals, Value.category]; done) | rfl) (fun w C => ?_)
  replace C : Cx w l Z "com/example/plumbline/plumbline/Grades" prog_32_method_1_code 3 none "<init>" ({ frames := 3, cells := 0, slots := 0, locals := 38 } : Room) n0 := C
  obtain ⟨S_DEF, E_DEF, V_DEF, S_EL, E_EL, F_EL, V_EA, S_EM, E_EM, S_CS, hcs, MIR⟩ := id H
  obtain ⟨kD, V_DEF⟩ := V_DEF
  obtain ⟨kEA, V_EA⟩ := V_EA
  refine g_aloadN C (pc' := 1) d16_0 rfl rfl rfl ?_
  refine g_initO C (pc' := 4) (wd hw 119 rfl) (wd hw 26 rfl) (wd hw 27 rfl) d16_1 rfl rfl (Nat.le_of_ble_eq_true rfl) (Nat.le_of_ble_eq_true rfl) rfl ?_
  refine g_aloadN C (pc' := 5) d16_4 rfl rfl rfl ?_
  refine g_aloadN C (pc' := 6) d16_5 rfl rfl rfl ?_
  refine g_callS C (pc' := 9) (k' := 0) (n' := 0) (argsL := [(.ref ua)]) (rest := [(.ref a)]) (wd hw 120 rfl) (wd hw 121 rfl) (wd hw 122 rfl) (wd hw 123 rfl) (by decide) d16_6 pd_13 rfl rfl rfl (cpo_0 l Z a0 hw n0 h O s_DEF s_EL s_EA s_EM cs mr H ua umc  uP) (Nat.le_of_ble_eq_true rfl) (Nat.le_of_ble_eq_true rfl) (Nat.le_of_ble_eq_true rfl) (Nat.le_of_ble_eq_true rfl) rfl rfl rfl (fun v718 h717 q719 => ?_)
  obtain ⟨rfl, eh717⟩ := q719
  subst h717
  show G w _ h 0 0 9 #[.val (.ref a), .val (.ref ua), .val (.ref va)] [(.ref s_EL), (.ref a)]
  refine g_putF C (pc' := 12) (ty := (.object "java/util/List")) (wd hw 147 rfl) Via.refl d16_9 rfl F1 E0 (Or.inr ⟨(wd hw 148 rfl), rfl, rfl⟩) (wd hw 114 rfl) (by decide) rfl rfl ga rfl (fun h720 W721 => ?_)
  have f722 := O.wr W721 ga
  have f723 := (Keep.refl h [a]).wr W721 (Or.inl (List.mem_of_getElem? (i := 0) rfl))
  have f724 := E0.wr W721
  have f725 := F1.same W721
  have f726 := F2.other W721 (Or.inr (slot_ne (Or.inr (wd hw 215 rfl)) (Or.inr (wd hw 148 rfl)) (by decide) (t := (.object "java/util/List")) (t' := (.object "java/util/List")) (by decide) (by decide)))
  have f727 := Ex.wr W721
  have f728 := own_AL0_keep uP (Keep.of_wr W721) (ninS (Ne.symm nau) nin0)
  have f729 := own_AL0_keep vP (Keep.of_wr W721) (ninS (Ne.symm nav) nin0)
  refine g_aloadN C (pc' := 13) d16_12 rfl rfl rfl ?_
  refine g_aloadN C (pc' := 14) d16_13 rfl rfl rfl ?_
  refine g_callS C (pc' := 17) (k' := 0) (n' := 0) (argsL := [(.ref va)]) (rest := [(.ref a)]) (wd hw 120 rfl) (wd hw 121 rfl) (wd hw 122 rfl) (wd hw 123 rfl) (by decide) d16_14 pd_13 rfl rfl rfl (cpo_0 l Z a0 hw n0 h720 f722 s_DEF s_EL s_EA s_EM cs mr H va vmc  f729) (Nat.le_of_ble_eq_true rfl) (Nat.le_of_ble_eq_true rfl) (Nat.le_of_ble_eq_true rfl) (Nat.le_of_ble_eq_true rfl) rfl rfl rfl (fun v731 h730 q732 => ?_)
  obtain ⟨rfl, eh730⟩ := q732
  subst h730
  show G w _ h720 0 0 17 #[.val (.ref a), .val (.ref ua), .val (.ref va)] [(.ref s_EL), (.ref a)]
  refine g_putF C (pc' := 20) (ty := (.object "java/util/List")) (wd hw 214 rfl) Via.refl d16_17 rfl f726 f724 (Or.inr ⟨(wd hw 215 rfl), rfl, rfl⟩) (wd hw 114 rfl) (by decide) rfl rfl ga rfl (fun h733 W734 => ?_)
  have f735 := f722.wr W734 ga
  have f736 := f723.wr W734 (Or.inl (List.mem_of_getElem? (i := 0) rfl))
  have f737 := f724.wr W734
  have f738 := f725.other W734 (Or.inr (slot_ne (Or.inr (wd hw 148 rfl)) (Or.inr (wd hw 215 rfl)) (by decide) (t := (.object "java/util/List")) (t' := (.object "java/util/List")) (by decide) (by decide)))
  have f739 := f726.same W734
  have f740 := f727.wr W734
  have f741 := own_AL0_keep f728 (Keep.of_wr W734) (ninS (Ne.symm nau) nin0)
  have f742 := own_AL0_keep f729 (Keep.of_wr W734) (ninS (Ne.symm nav) nin0)
  exact g_return C d16_20 rfl (Nat.le_of_ble_eq_true rfl) (Nat.le_of_ble_eq_true rfl) (⟨rfl, f736, f737, f738⟩)
set_option maxRecDepth 65536 in
set_option maxHeartbeats 40000000 in
theorem gsI_01 (l : Launch) (Z : State) (a0 : Array Value) (hw : ∀ d ∈ tables_1, d.before a0 Z = true) (n0 : Nat) (h : Heap) (O : Old Z n0 h) (s_DEF : Addr) (s_EL : Addr) (s_EA : Addr) (s_EM : Addr) (cs : Int32) (mr : Addr) (H : En Z s_DEF s_EL s_EA s_EM cs mr) (a x : Addr) (ga : n0 ≤ a) (ua : Addr) (umc : Int32) (va ved : Addr) (vkE : ClassId) (vmc : Int32) (E0 : Exa Z h a "com/example/plumbline/plumbline/Grades") (F1 : Fld Z h a "com/example/plumbline/plumbline/Grades" "area" "Ljava/util/List;" .null) (F2 : Fld Z h a "com/example/plumbline/plumbline/Grades" "total" "Ljava/util/List;" .null) (Ex : Exa Z h x "com/example/plumbline/plumbline/Band") (uP : AL0 Z n0 h ua s_DEF umc) (vP : AL1 Z n0 h va ved vkE vmc (1 : Int32) [(.ref x), .null, .null, .null, .null, .null, .null, .null, .null, .null]) (nau : a ≠ ua) (nav : a ≠ va) (nave : a ≠ ved) : Con l Z (⟨"com/example/plumbline/plumbline/Grades", "<init>", "(Ljava/util/List;Ljava/util/List;)V"⟩ : MethodName) prog_32_method_1_code 3 none ({ frames := 8, cells := 2, slots := 3, locals := 101 } : Room) #[(.ref a), (.ref ua), (.ref va)] h n0 (fun v h' => v = none ∧ Keep h h' [a] ∧ Exa Z h' a "com/example/plumbline/plumbline/Grades" ∧ Fld Z h' a "com/example/plumbline/plumbline/Grades" "area" "Ljava/util/List;" (.ref s_EL)) := by
  refine Con.mk (Ls := #[.val (.ref a), .val (.ref ua), .val (.ref va)]) (plainFor_of_name pn_2) (fun m => by first | (simp [entryFrame, mkF, argsToLocals, Value.category]; done) | rfl) (fun w C => ?_)
  replace C : Cx w l Z "com/example/plumbline/plumbline/Grades" prog_32_method_1_code 3 none "<init>" ({ frames := 8, cells := 2, slots := 3, locals := 101 } : Room) n0 := C
  obtain ⟨S_DEF, E_DEF, V_DEF, S_EL, E_EL, F_EL, V_EA, S_EM, E_EM, S_CS, hcs, MIR⟩ := id H
  obtain ⟨kD, V_DEF⟩ := V_DEF
  obtain ⟨kEA, V_EA⟩ := V_EA
  refine g_aloadN C (pc' := 1) d16_0 rfl rfl rfl ?_
  refine g_initO C (pc' := 4) (wd hw 119 rfl) (wd hw 26 rfl) (wd hw 27 rfl) d16_1 rfl rfl (Nat.le_of_ble_eq_true rfl) (Nat.le_of_ble_eq_true rfl) rfl ?_
  refine g_aloadN C (pc' := 5) d16_4 rfl rfl rfl ?_
  refine g_aloadN C (pc' := 6) d16_5 rfl rfl rfl ?_
  refine g_callS C (pc' := 9) (k' := 0) (n' := 0) (argsL := [(.ref ua)]) (rest := [(.ref a)]) (wd hw 120 rfl) (wd hw 121 rfl) (wd hw 122 rfl) (wd hw 123 rfl) (by decide) d16_6 pd_13 rfl rfl rfl (cpo_0 l Z a0 hw n0 h O s_DEF s_EL s_EA s_EM cs mr H ua umc  uP) (Nat.le_of_ble_eq_true rfl) (Nat.le_of_ble_eq_true rfl) (Nat.le_of_ble_eq_true rfl) (Nat.le_of_ble_eq_true rfl) rfl rfl rfl (fun v744 h743 q745 => ?_)
  obtain ⟨rfl, eh743⟩ := q745
  subst h743
  show G w _ h 0 0 9 #[.val (.ref a), .val (.ref ua), .val (.ref va)] [(.ref s_EL), (.ref a)]
  refine g_putF C (pc' := 12) (ty := (.object "java/util/List")) (wd hw 147 rfl) Via.refl d16_9 rfl F1 E0 (Or.inr ⟨(wd hw 148 rfl), rfl, rfl⟩) (wd hw 114 rfl) (by decide) rfl rfl ga rfl (fun h746 W747 => ?_)
  have f748 := O.wr W747 ga
  have f749 := (Keep.refl h [a]).wr W747 (Or.inl (List.mem_of_getElem? (i := 0) rfl))
  have f750 := E0.wr W747
  have f751 := F1.same W747
  have f752 := F2.other W747 (Or.inr (slot_ne (Or.inr (wd hw 215 rfl)) (Or.inr (wd hw 148 rfl)) (by decide) (t := (.object "java/util/List")) (t' := (.object "java/util/List")) (by decide) (by decide)))
  have f753 := Ex.wr W747
  have f754 := own_AL0_keep uP (Keep.of_wr W747) (ninS (Ne.symm nau) nin0)
  have f755 := own_AL1_keep vP (Keep.of_wr W747) (ninS (Ne.symm nav) nin0) (ninS (Ne.symm nave) nin0)
  refine g_aloadN C (pc' := 13) d16_12 rfl rfl rfl ?_
  refine g_aloadN C (pc' := 14) d16_13 rfl rfl rfl ?_
  refine g_callS C (pc' := 17) (k' := 2) (n' := 3) (argsL := [(.ref va)]) (rest := [(.ref a)]) (wd hw 120 rfl) (wd hw 121 rfl) (wd hw 122 rfl) (wd hw 123 rfl) (by decide) d16_14 pd_13 rfl rfl rfl (cpo_1 l Z a0 hw n0 h746 f748 s_DEF s_EL s_EA s_EM cs mr H va ved vkE vmc x f753 f755) (Nat.le_of_ble_eq_true rfl) (Nat.le_of_ble_eq_true rfl) (Nat.le_of_ble_eq_true rfl) (Nat.le_of_ble_eq_true rfl) rfl rfl rfl (fun v757 h756 q758 => ?_)
  obtain ⟨vL, rfl, vq1, vq2, vq3⟩ := q758
  have ne_a_vL : a ≠ vL := Nat.ne_of_lt (Nat.lt_of_lt_of_le f750.lt vq1)
  have ne_x_vL : x ≠ vL := Nat.ne_of_lt (Nat.lt_of_lt_of_le f753.lt vq1)
  have ge_vL : n0 ≤ vL := Nat.le_trans (f748.1 ▸ f748.2.1) vq1
  have sz_vL : h.size ≤ vL := Nat.le_trans f749.1 vq1
  have f759 := f748.keep vq2 all0
  have f760 := f749.trans vq2 all0
  have f761 := f750.keep vq2
  have f762 := f751.keep vq2 nin0
  have f763 := f752.keep vq2 nin0
  have f764 := f753.keep vq2
  have f765 := own_AL0_keep f754 vq2 nin0
  have f766 := own_AL1_keep f755 vq2 nin0 nin0
  show G w _ h756 2 3 17 #[.val (.ref a), .val (.ref ua), .val (.ref va)] [(.ref vL), (.ref a)]
  refine g_putF C (pc' := 20) (ty := (.object "java/util/List")) (wd hw 214 rfl) Via.refl d16_17 rfl f763 f761 (Or.inr ⟨(wd hw 215 rfl), rfl, rfl⟩) (wd hw 114 rfl) (by decide) rfl rfl ga rfl (fun h767 W768 => ?_)
  have f769 := f759.wr W768 ga
  have f770 := f760.wr W768 (Or.inl (List.mem_of_getElem? (i := 0) rfl))
  have f771 := f761.wr W768
  have f772 := f762.other W768 (Or.inr (slot_ne (Or.inr (wd hw 148 rfl)) (Or.inr (wd hw 215 rfl)) (by decide) (t := (.object "java/util/List")) (t' := (.object "java/util/List")) (by decide) (by decide)))
  have f773 := f763.same W768
  have f774 := f764.wr W768
  have f775 := own_AL0_keep f765 (Keep.of_wr W768) (ninS (Ne.symm nau) nin0)
  have f776 := own_AL1_keep f766 (Keep.of_wr W768) (ninS (Ne.symm nav) nin0) (ninS (Ne.symm nave) nin0)
  have f777 := vq3.wr W768
  exact g_return C d16_20 rfl (Nat.le_of_ble_eq_true rfl) (Nat.le_of_ble_eq_true rfl) (⟨rfl, f770, f771, f772⟩)
set_option maxRecDepth 65536 in
set_option maxHeartbeats 40000000 in
theorem gsI_02 (l : Launch) (Z : State) (a0 : Array Value) (hw : ∀ d ∈ tables_1, d.before a0 Z = true) (n0 : Nat) (h : Heap) (O : Old Z n0 h) (s_DEF : Addr) (s_EL : Addr) (s_EA : Addr) (s_EM : Addr) (cs : Int32) (mr : Addr) (H : En Z s_DEF s_EL s_EA s_EM cs mr) (a x : Addr) (ga : n0 ≤ a) (ua : Addr) (umc : Int32) (va ved : Addr) (vkE : ClassId) (vmc : Int32) (E0 : Exa Z h a "com/example/plumbline/plumbline/Grades") (F1 : Fld Z h a "com/example/plumbline/plumbline/Grades" "area" "Ljava/util/List;" .null) (F2 : Fld Z h a "com/example/plumbline/plumbline/Grades" "total" "Ljava/util/List;" .null) (Ex : Exa Z h x "com/example/plumbline/plumbline/Band") (uP : AL0 Z n0 h ua s_DEF umc) (vP : AL1 Z n0 h va ved vkE vmc (2 : Int32) [(.ref x), (.ref x), .null, .null, .null, .null, .null, .null, .null, .null]) (nau : a ≠ ua) (nav : a ≠ va) (nave : a ≠ ved) : Con l Z (⟨"com/example/plumbline/plumbline/Grades", "<init>", "(Ljava/util/List;Ljava/util/List;)V"⟩ : MethodName) prog_32_method_1_code 3 none ({ frames := 8, cells := 2, slots := 4, locals := 102 } : Room) #[(.ref a), (.ref ua), (.ref va)] h n0 (fun v h' => v = none ∧ Keep h h' [a] ∧ Exa Z h' a "com/example/plumbline/plumbline/Grades" ∧ Fld Z h' a "com/example/plumbline/plumbline/Grades" "area" "Ljava/util/List;" (.ref s_EL)) := by
  refine Con.mk (Ls := #[.val (.ref a), .val (.ref ua), .val (.ref va)]) (plainFor_of_name pn_2) (fun m => by first | (simp [entryFrame, mkF, argsToLocals, Value.category]; done) | rfl) (fun w C => ?_)
  replace C : Cx w l Z "com/example/plumbline/plumbline/Grades" prog_32_method_1_code 3 none "<init>" ({ frames := 8, cells := 2, slots := 4, locals := 102 } : Room) n0 := C
  obtain ⟨S_DEF, E_DEF, V_DEF, S_EL, E_EL, F_EL, V_EA, S_EM, E_EM, S_CS, hcs, MIR⟩ := id H
  obtain ⟨kD, V_DEF⟩ := V_DEF
  obtain ⟨kEA, V_EA⟩ := V_EA
  refine g_aloadN C (pc' := 1) d16_0 rfl rfl rfl ?_
  refine g_initO C (pc' := 4) (wd hw 119 rfl) (wd hw 26 rfl) (wd hw 27 rfl) d16_1 rfl rfl (Nat.le_of_ble_eq_true rfl) (Nat.le_of_ble_eq_true rfl) rfl ?_
  refine g_aloadN C (pc' := 5) d16_4 rfl rfl rfl ?_
  refine g_aloadN C (pc' := 6) d16_5 rfl rfl rfl ?_
  refine g_callS C (pc' := 9) (k' := 0) (n' := 0) (argsL := [(.ref ua)]) (rest := [(.ref a)]) (wd hw 120 rfl) (wd hw 121 rfl) (wd hw 122 rfl) (wd hw 123 rfl) (by decide) d16_6 pd_13 rfl rfl rfl (cpo_0 l Z a0 hw n0 h O s_DEF s_EL s_EA s_EM cs mr H ua umc  uP) (Nat.le_of_ble_eq_true rfl) (Nat.le_of_ble_eq_true rfl) (Nat.le_of_ble_eq_true rfl) (Nat.le_of_ble_eq_true rfl) rfl rfl rfl (fun v779 h778 q780 => ?_)
  obtain ⟨rfl, eh778⟩ := q780
  subst h778
  show G w _ h 0 0 9 #[.val (.ref a), .val (.ref ua), .val (.ref va)] [(.ref s_EL), (.ref a)]
  refine g_putF C (pc' := 12) (ty := (.object "java/util/List")) (wd hw 147 rfl) Via.refl d16_9 rfl F1 E0 (Or.inr ⟨(wd hw 148 rfl), rfl, rfl⟩) (wd hw 114 rfl) (by decide) rfl rfl ga rfl (fun h781 W782 => ?_)
  have f783 := O.wr W782 ga
  have f784 := (Keep.refl h [a]).wr W782 (Or.inl (List.mem_of_getElem? (i := 0) rfl))
  have f785 := E0.wr W782
  have f786 := F1.same W782
  have f787 := F2.other W782 (Or.inr (slot_ne (Or.inr (wd hw 215 rfl)) (Or.inr (wd hw 148 rfl)) (by decide) (t := (.object "java/util/List")) (t' := (.object "java/util/List")) (by decide) (by decide)))
  have f788 := Ex.wr W782
  have f789 := own_AL0_keep uP (Keep.of_wr W782) (ninS (Ne.symm nau) nin0)
  have f790 := own_AL1_keep vP (Keep.of_wr W782) (ninS (Ne.symm nav) nin0) (ninS (Ne.symm nave) nin0)
  refine g_aloadN C (pc' := 13) d16_12 rfl rfl rfl ?_
  refine g_aloadN C (pc' := 14) d16_13 rfl rfl rfl ?_
  refine g_callS C (pc' := 17) (k' := 2) (n' := 4) (argsL := [(.ref va)]) (rest := [(.ref a)]) (wd hw 120 rfl) (wd hw 121 rfl) (wd hw 122 rfl) (wd hw 123 rfl) (by decide) d16_14 pd_13 rfl rfl rfl (cpo_2 l Z a0 hw n0 h781 f783 s_DEF s_EL s_EA s_EM cs mr H va ved vkE vmc x x f788 f788 f790) (Nat.le_of_ble_eq_true rfl) (Nat.le_of_ble_eq_true rfl) (Nat.le_of_ble_eq_true rfl) (Nat.le_of_ble_eq_true rfl) rfl rfl rfl (fun v792 h791 q793 => ?_)
  obtain ⟨vL, rfl, vq1, vq2, vq3⟩ := q793
  have ne_a_vL : a ≠ vL := Nat.ne_of_lt (Nat.lt_of_lt_of_le f785.lt vq1)
  have ne_x_vL : x ≠ vL := Nat.ne_of_lt (Nat.lt_of_lt_of_le f788.lt vq1)
  have ge_vL : n0 ≤ vL := Nat.le_trans (f783.1 ▸ f783.2.1) vq1
  have sz_vL : h.size ≤ vL := Nat.le_trans f784.1 vq1
  have f794 := f783.keep vq2 all0
  have f795 := f784.trans vq2 all0
  have f796 := f785.keep vq2
  have f797 := f786.keep vq2 nin0
  have f798 := f787.keep vq2 nin0
  have f799 := f788.keep vq2
  have f800 := own_AL0_keep f789 vq2 nin0
  have f801 := own_AL1_keep f790 vq2 nin0 nin0
  show G w _ h791 2 4 17 #[.val (.ref a), .val (.ref ua), .val (.ref va)] [(.ref vL), (.ref a)]
  refine g_putF C (pc' := 20) (ty := (.object "java/util/List")) (wd hw 214 rfl) Via.refl d16_17 rfl f798 f796 (Or.inr ⟨(wd hw 215 rfl), rfl, rfl⟩) (wd hw 114 rfl) (by decide) rfl rfl ga rfl (fun h802 W803 => ?_)
  have f804 := f794.wr W803 ga
  have f805 := f795.wr W803 (Or.inl (List.mem_of_getElem? (i := 0) rfl))
  have f806 := f796.wr W803
  have f807 := f797.other W803 (Or.inr (slot_ne (Or.inr (wd hw 148 rfl)) (Or.inr (wd hw 215 rfl)) (by decide) (t := (.object "java/util/List")) (t' := (.object "java/util/List")) (by decide) (by decide)))
  have f808 := f798.same W803
  have f809 := f799.wr W803
  have f810 := own_AL0_keep f800 (Keep.of_wr W803) (ninS (Ne.symm nau) nin0)
  have f811 := own_AL1_keep f801 (Keep.of_wr W803) (ninS (Ne.symm nav) nin0) (ninS (Ne.symm nave) nin0)
  have f812 := vq3.wr W803
  exact g_return C d16_20 rfl (Nat.le_of_ble_eq_true rfl) (Nat.le_of_ble_eq_true rfl) (⟨rfl, f805, f806, f807⟩)
set_option maxRecDepth 65536 in
set_option maxHeartbeats 40000000 in
theorem gsI_03 (l : Launch) (Z : State) (a0 : Array Value) (hw : ∀ d ∈ tables_1, d.before a0 Z = true) (n0 : Nat) (h : Heap) (O : Old Z n0 h) (s_DEF : Addr) (s_EL : Addr) (s_EA : Addr) (s_EM : Addr) (cs : Int32) (mr : Addr) (H : En Z s_DEF s_EL s_EA s_EM cs mr) (a x : Addr) (ga : n0 ≤ a) (ua : Addr) (umc : Int32) (va ved : Addr) (vkE : ClassId) (vmc : Int32) (E0 : Exa Z h a "com/example/plumbline/plumbline/Grades") (F1 : Fld Z h a "com/example/plumbline/plumbline/Grades" "area" "Ljava/util/List;" .null) (F2 : Fld Z h a "com/example/plumbline/plumbline/Grades" "total" "Ljava/util/List;" .null) (Ex : Exa Z h x "com/example/plumbline/plumbline/Band") (uP : AL0 Z n0 h ua s_DEF umc) (vP : AL1 Z n0 h va ved vkE vmc (3 : Int32) [(.ref x), (.ref x), (.ref x), .null, .null, .null, .null, .null, .null, .null]) (nau : a ≠ ua) (nav : a ≠ va) (nave : a ≠ ved) : Con l Z (⟨"com/example/plumbline/plumbline/Grades", "<init>", "(Ljava/util/List;Ljava/util/List;)V"⟩ : MethodName) prog_32_method_1_code 3 none ({ frames := 9, cells := 3, slots := 8, locals := 116 } : Room) #[(.ref a), (.ref ua), (.ref va)] h n0 (fun v h' => v = none ∧ Keep h h' [a] ∧ Exa Z h' a "com/example/plumbline/plumbline/Grades" ∧ Fld Z h' a "com/example/plumbline/plumbline/Grades" "area" "Ljava/util/List;" (.ref s_EL)) := by
  refine Con.mk (Ls := #[.val (.ref a), .val (.ref ua), .val (.ref va)]) (plainFor_of_name pn_2) (fun m => by first | (simp [entryFrame, mkF, argsToLocals, Value.category]; done) | rfl) (fun w C => ?_)
  replace C : Cx w l Z "com/example/plumbline/plumbline/Grades" prog_32_method_1_code 3 none "<init>" ({ frames := 9, cells := 3, slots := 8, locals := 116 } : Room) n0 := C
  obtain ⟨S_DEF, E_DEF, V_DEF, S_EL, E_EL, F_EL, V_EA, S_EM, E_EM, S_CS, hcs, MIR⟩ := id H
  obtain ⟨kD, V_DEF⟩ := V_DEF
  obtain ⟨kEA, V_EA⟩ := V_EA
  refine g_aloadN C (pc' := 1) d16_0 rfl rfl rfl ?_
  refine g_initO C (pc' := 4) (wd hw 119 rfl) (wd hw 26 rfl) (wd hw 27 rfl) d16_1 rfl rfl (Nat.le_of_ble_eq_true rfl) (Nat.le_of_ble_eq_true rfl) rfl ?_
  refine g_aloadN C (pc' := 5) d16_4 rfl rfl rfl ?_
  refine g_aloadN C (pc' := 6) d16_5 rfl rfl rfl ?_
  refine g_callS C (pc' := 9) (k' := 0) (n' := 0) (argsL := [(.ref ua)]) (rest := [(.ref a)]) (wd hw 120 rfl) (wd hw 121 rfl) (wd hw 122 rfl) (wd hw 123 rfl) (by decide) d16_6 pd_13 rfl rfl rfl (cpo_0 l Z a0 hw n0 h O s_DEF s_EL s_EA s_EM cs mr H ua umc  uP) (Nat.le_of_ble_eq_true rfl) (Nat.le_of_ble_eq_true rfl) (Nat.le_of_ble_eq_true rfl) (Nat.le_of_ble_eq_true rfl) rfl rfl rfl (fun v814 h813 q815 => ?_)
  obtain ⟨rfl, eh813⟩ := q815
  subst h813
  show G w _ h 0 0 9 #[.val (.ref a), .val (.ref ua), .val (.ref va)] [(.ref s_EL), (.ref a)]
  refine g_putF C (pc' := 12) (ty := (.object "java/util/List")) (wd hw 147 rfl) Via.refl d16_9 rfl F1 E0 (Or.inr ⟨(wd hw 148 rfl), rfl, rfl⟩) (wd hw 114 rfl) (by decide) rfl rfl ga rfl (fun h816 W817 => ?_)
  have f818 := O.wr W817 ga
  have f819 := (Keep.refl h [a]).wr W817 (Or.inl (List.mem_of_getElem? (i := 0) rfl))
  have f820 := E0.wr W817
  have f821 := F1.same W817
  have f822 := F2.other W817 (Or.inr (slot_ne (Or.inr (wd hw 215 rfl)) (Or.inr (wd hw 148 rfl)) (by decide) (t := (.object "java/util/List")) (t' := (.object "java/util/List")) (by decide) (by decide)))
  have f823 := Ex.wr W817
  have f824 := own_AL0_keep uP (Keep.of_wr W817) (ninS (Ne.symm nau) nin0)
  have f825 := own_AL1_keep vP (Keep.of_wr W817) (ninS (Ne.symm nav) nin0) (ninS (Ne.symm nave) nin0)
  refine g_aloadN C (pc' := 13) d16_12 rfl rfl rfl ?_
  refine g_aloadN C (pc' := 14) d16_13 rfl rfl rfl ?_
  refine g_callS C (pc' := 17) (k' := 3) (n' := 8) (argsL := [(.ref va)]) (rest := [(.ref a)]) (wd hw 120 rfl) (wd hw 121 rfl) (wd hw 122 rfl) (wd hw 123 rfl) (by decide) d16_14 pd_13 rfl rfl rfl (cpo_3 l Z a0 hw n0 h816 f818 s_DEF s_EL s_EA s_EM cs mr H va ved vkE vmc x x x f823 f823 f823 f825) (Nat.le_of_ble_eq_true rfl) (Nat.le_of_ble_eq_true rfl) (Nat.le_of_ble_eq_true rfl) (Nat.le_of_ble_eq_true rfl) rfl rfl rfl (fun v827 h826 q828 => ?_)
  obtain ⟨vL, var, vkA, rfl, vq1, vq0, vq2, vq3, vq4, vq5⟩ := q828
  have ne_a_vL : a ≠ vL := Nat.ne_of_lt (Nat.lt_of_lt_of_le f820.lt vq1)
  have ne_x_vL : x ≠ vL := Nat.ne_of_lt (Nat.lt_of_lt_of_le f823.lt vq1)
  have ge_vL : n0 ≤ vL := Nat.le_trans (f818.1 ▸ f818.2.1) vq1
  have sz_vL : h.size ≤ vL := Nat.le_trans f819.1 vq1
  have ne_a_var : a ≠ var := Nat.ne_of_lt (Nat.lt_of_lt_of_le f820.lt vq0)
  have ne_x_var : x ≠ var := Nat.ne_of_lt (Nat.lt_of_lt_of_le f823.lt vq0)
  have ge_var : n0 ≤ var := Nat.le_trans (f818.1 ▸ f818.2.1) vq0
  have sz_var : h.size ≤ var := Nat.le_trans f819.1 vq0
  have f829 := f818.keep vq2 all0
  have f830 := f819.trans vq2 all0
  have f831 := f820.keep vq2
  have f832 := f821.keep vq2 nin0
  have f833 := f822.keep vq2 nin0
  have f834 := f823.keep vq2
  have f835 := own_AL0_keep f824 vq2 nin0
  have f836 := own_AL1_keep f825 vq2 nin0 nin0
  show G w _ h826 3 8 17 #[.val (.ref a), .val (.ref ua), .val (.ref va)] [(.ref vL), (.ref a)]
  refine g_putF C (pc' := 20) (ty := (.object "java/util/List")) (wd hw 214 rfl) Via.refl d16_17 rfl f833 f831 (Or.inr ⟨(wd hw 215 rfl), rfl, rfl⟩) (wd hw 114 rfl) (by decide) rfl rfl ga rfl (fun h837 W838 => ?_)
  have f839 := f829.wr W838 ga
  have f840 := f830.wr W838 (Or.inl (List.mem_of_getElem? (i := 0) rfl))
  have f841 := f831.wr W838
  have f842 := f832.other W838 (Or.inr (slot_ne (Or.inr (wd hw 148 rfl)) (Or.inr (wd hw 215 rfl)) (by decide) (t := (.object "java/util/List")) (t' := (.object "java/util/List")) (by decide) (by decide)))
  have f843 := f833.same W838
  have f844 := f834.wr W838
  have f845 := own_AL0_keep f835 (Keep.of_wr W838) (ninS (Ne.symm nau) nin0)
  have f846 := own_AL1_keep f836 (Keep.of_wr W838) (ninS (Ne.symm nav) nin0) (ninS (Ne.symm nave) nin0)
  have f847 := vq3.wr W838
  have f848 := vq4.other W838 (Or.inl (Ne.symm ne_a_vL))
  have f849 := vq5.other W838 (Ne.symm ne_a_var)
  exact g_return C d16_20 rfl (Nat.le_of_ble_eq_true rfl) (Nat.le_of_ble_eq_true rfl) (⟨rfl, f840, f841, f842⟩)
set_option maxRecDepth 65536 in
set_option maxHeartbeats 40000000 in
theorem gsI_10 (l : Launch) (Z : State) (a0 : Array Value) (hw : ∀ d ∈ tables_1, d.before a0 Z = true) (n0 : Nat) (h : Heap) (O : Old Z n0 h) (s_DEF : Addr) (s_EL : Addr) (s_EA : Addr) (s_EM : Addr) (cs : Int32) (mr : Addr) (H : En Z s_DEF s_EL s_EA s_EM cs mr) (a x : Addr) (ga : n0 ≤ a) (ua ued : Addr) (ukE : ClassId) (umc : Int32) (va : Addr) (vmc : Int32) (E0 : Exa Z h a "com/example/plumbline/plumbline/Grades") (F1 : Fld Z h a "com/example/plumbline/plumbline/Grades" "area" "Ljava/util/List;" .null) (F2 : Fld Z h a "com/example/plumbline/plumbline/Grades" "total" "Ljava/util/List;" .null) (Ex : Exa Z h x "com/example/plumbline/plumbline/Band") (uP : AL1 Z n0 h ua ued ukE umc (1 : Int32) [(.ref x), .null, .null, .null, .null, .null, .null, .null, .null, .null]) (vP : AL0 Z n0 h va s_DEF vmc) (nau : a ≠ ua) (nav : a ≠ va) (naue : a ≠ ued) : Con l Z (⟨"com/example/plumbline/plumbline/Grades", "<init>", "(Ljava/util/List;Ljava/util/List;)V"⟩ : MethodName) prog_32_method_1_code 3 none ({ frames := 8, cells := 2, slots := 3, locals := 101 } : Room) #[(.ref a), (.ref ua), (.ref va)] h n0 (fun v h' => v = none ∧ Keep h h' [a] ∧ Exa Z h' a "com/example/plumbline/plumbline/Grades" ∧ ∃ L, Fld Z h' a "com/example/plumbline/plumbline/Grades" "area" "Ljava/util/List;" (.ref L) ∧ Exa Z h' L "java/util/ImmutableCollections$List12") := by
  refine Con.mk (Ls := #[.val (.ref a), .val (.ref ua), .val (.ref va)]) (plainFor_of_name pn_2) (fun m => by first | (simp [entryFrame, mkF, argsToLocals, Value.category]; done) | rfl) (fun w C => ?_)
  replace C : Cx w l Z "com/example/plumbline/plumbline/Grades" prog_32_method_1_code 3 none "<init>" ({ frames := 8, cells := 2, slots := 3, locals := 101 } : Room) n0 := C
  obtain ⟨S_DEF, E_DEF, V_DEF, S_EL, E_EL, F_EL, V_EA, S_EM, E_EM, S_CS, hcs, MIR⟩ := id H
  obtain ⟨kD, V_DEF⟩ := V_DEF
  obtain ⟨kEA, V_EA⟩ := V_EA
  refine g_aloadN C (pc' := 1) d16_0 rfl rfl rfl ?_
  refine g_initO C (pc' := 4) (wd hw 119 rfl) (wd hw 26 rfl) (wd hw 27 rfl) d16_1 rfl rfl (Nat.le_of_ble_eq_true rfl) (Nat.le_of_ble_eq_true rfl) rfl ?_
  refine g_aloadN C (pc' := 5) d16_4 rfl rfl rfl ?_
  refine g_aloadN C (pc' := 6) d16_5 rfl rfl rfl ?_
  refine g_callS C (pc' := 9) (k' := 2) (n' := 3) (argsL := [(.ref ua)]) (rest := [(.ref a)]) (wd hw 120 rfl) (wd hw 121 rfl) (wd hw 122 rfl) (wd hw 123 rfl) (by decide) d16_6 pd_13 rfl rfl rfl (cpo_1 l Z a0 hw n0 h O s_DEF s_EL s_EA s_EM cs mr H ua ued ukE umc x Ex uP) (Nat.le_of_ble_eq_true rfl) (Nat.le_of_ble_eq_true rfl) (Nat.le_of_ble_eq_true rfl) (Nat.le_of_ble_eq_true rfl) rfl rfl rfl (fun v851 h850 q852 => ?_)
  obtain ⟨uL, rfl, uq1, uq2, uq3⟩ := q852
  have ne_a_uL : a ≠ uL := Nat.ne_of_lt (Nat.lt_of_lt_of_le E0.lt uq1)
  have ne_x_uL : x ≠ uL := Nat.ne_of_lt (Nat.lt_of_lt_of_le Ex.lt uq1)
  have ge_uL : n0 ≤ uL := Nat.le_trans (O.1 ▸ O.2.1) uq1
  have sz_uL : h.size ≤ uL := Nat.le_trans (Keep.refl h [a]).1 uq1
  have f853 := O.keep uq2 all0
  have f854 := (Keep.refl h [a]).trans uq2 all0
  have f855 := E0.keep uq2
  have f856 := F1.keep uq2 nin0
  have f857 := F2.keep uq2 nin0
  have f858 := Ex.keep uq2
  have f859 := own_AL1_keep uP uq2 nin0 nin0
  have f860 := own_AL0_keep vP uq2 nin0
  show G w _ h850 2 3 9 #[.val (.ref a), .val (.ref ua), .val (.ref va)] [(.ref uL), (.ref a)]
  refine g_putF C (pc' := 12) (ty := (.object "java/util/List")) (wd hw 147 rfl) Via.refl d16_9 rfl f856 f855 (Or.inr ⟨(wd hw 148 rfl), rfl, rfl⟩) (wd hw 114 rfl) (by decide) rfl rfl ga rfl (fun h861 W862 => ?_)
  have f863 := f853.wr W862 ga
  have f864 := f854.wr W862 (Or.inl (List.mem_of_getElem? (i := 0) rfl))
  have f865 := f855.wr W862
  have f866 := f856.same W862
  have f867 := f857.other W862 (Or.inr (slot_ne (Or.inr (wd hw 215 rfl)) (Or.inr (wd hw 148 rfl)) (by decide) (t := (.object "java/util/List")) (t' := (.object "java/util/List")) (by decide) (by decide)))
  have f868 := f858.wr W862
  have f869 := own_AL1_keep f859 (Keep.of_wr W862) (ninS (Ne.symm nau) nin0) (ninS (Ne.symm naue) nin0)
  have f870 := own_AL0_keep f860 (Keep.of_wr W862) (ninS (Ne.symm nav) nin0)
  have f871 := uq3.wr W862
  refine g_aloadN C (pc' := 13) d16_12 rfl rfl rfl ?_
  refine g_aloadN C (pc' := 14) d16_13 rfl rfl rfl ?_
  refine g_callS C (pc' := 17) (k' := 2) (n' := 3) (argsL := [(.ref va)]) (rest := [(.ref a)]) (wd hw 120 rfl) (wd hw 121 rfl) (wd hw 122 rfl) (wd hw 123 rfl) (by decide) d16_14 pd_13 rfl rfl rfl (cpo_0 l Z a0 hw n0 h861 f863 s_DEF s_EL s_EA s_EM cs mr H va vmc  f870) (Nat.le_of_ble_eq_true rfl) (Nat.le_of_ble_eq_true rfl) (Nat.le_of_ble_eq_true rfl) (Nat.le_of_ble_eq_true rfl) rfl rfl rfl (fun v873 h872 q874 => ?_)
  obtain ⟨rfl, eh872⟩ := q874
  subst h872
  show G w _ h861 2 3 17 #[.val (.ref a), .val (.ref ua), .val (.ref va)] [(.ref s_EL), (.ref a)]
  refine g_putF C (pc' := 20) (ty := (.object "java/util/List")) (wd hw 214 rfl) Via.refl d16_17 rfl f867 f865 (Or.inr ⟨(wd hw 215 rfl), rfl, rfl⟩) (wd hw 114 rfl) (by decide) rfl rfl ga rfl (fun h875 W876 => ?_)
  have f877 := f863.wr W876 ga
  have f878 := f864.wr W876 (Or.inl (List.mem_of_getElem? (i := 0) rfl))
  have f879 := f865.wr W876
  have f880 := f866.other W876 (Or.inr (slot_ne (Or.inr (wd hw 148 rfl)) (Or.inr (wd hw 215 rfl)) (by decide) (t := (.object "java/util/List")) (t' := (.object "java/util/List")) (by decide) (by decide)))
  have f881 := f867.same W876
  have f882 := f868.wr W876
  have f883 := own_AL1_keep f869 (Keep.of_wr W876) (ninS (Ne.symm nau) nin0) (ninS (Ne.symm naue) nin0)
  have f884 := own_AL0_keep f870 (Keep.of_wr W876) (ninS (Ne.symm nav) nin0)
  have f885 := f871.wr W876
  exact g_return C d16_20 rfl (Nat.le_of_ble_eq_true rfl) (Nat.le_of_ble_eq_true rfl) (⟨rfl, f878, f879, uL, f880, f885⟩)
set_option maxRecDepth 65536 in
set_option maxHeartbeats 40000000 in
theorem gsI_11 (l : Launch) (Z : State) (a0 : Array Value) (hw : ∀ d ∈ tables_1, d.before a0 Z = true) (n0 : Nat) (h : Heap) (O : Old Z n0 h) (s_DEF : Addr) (s_EL : Addr) (s_EA : Addr) (s_EM : Addr) (cs : Int32) (mr : Addr) (H : En Z s_DEF s_EL s_EA s_EM cs mr) (a x : Addr) (ga : n0 ≤ a) (ua ued : Addr) (ukE : ClassId) (umc : Int32) (va ved : Addr) (vkE : ClassId) (vmc : Int32) (E0 : Exa Z h a "com/example/plumbline/plumbline/Grades") (F1 : Fld Z h a "com/example/plumbline/plumbline/Grades" "area" "Ljava/util/List;" .null) (F2 : Fld Z h a "com/example/plumbline/plumbline/Grades" "total" "Ljava/util/List;" .null) (Ex : Exa Z h x "com/example/plumbline/plumbline/Band") (uP : AL1 Z n0 h ua ued ukE umc (1 : Int32) [(.ref x), .null, .null, .null, .null, .null, .null, .null, .null, .null]) (vP : AL1 Z n0 h va ved vkE vmc (1 : Int32) [(.ref x), .null, .null, .null, .null, .null, .null, .null, .null, .null]) (nau : a ≠ ua) (nav : a ≠ va) (naue : a ≠ ued) (nave : a ≠ ved) : Con l Z (⟨"com/example/plumbline/plumbline/Grades", "<init>", "(Ljava/util/List;Ljava/util/List;)V"⟩ : MethodName) prog_32_method_1_code 3 none ({ frames := 8, cells := 4, slots := 6, locals := 101 } : Room) #[(.ref a), (.ref ua), (.ref va)] h n0 (fun v h' => v = none ∧ Keep h h' [a] ∧ Exa Z h' a "com/example/plumbline/plumbline/Grades" ∧ ∃ L, Fld Z h' a "com/example/plumbline/plumbline/Grades" "area" "Ljava/util/List;" (.ref L) ∧ Exa Z h' L "java/util/ImmutableCollections$List12") := by
  refine Con.mk (Ls := #[.val (.ref a), .val (.ref ua), .val (.ref va)]) (plainFor_of_name pn_2) (fun m => by first | (simp [entryFrame, mkF, argsToLocals, Value.category]; done) | rfl) (fun w C => ?_)
  replace C : Cx w l Z "com/example/plumbline/plumbline/Grades" prog_32_method_1_code 3 none "<init>" ({ frames := 8, cells := 4, slots := 6, locals := 101 } : Room) n0 := C
  obtain ⟨S_DEF, E_DEF, V_DEF, S_EL, E_EL, F_EL, V_EA, S_EM, E_EM, S_CS, hcs, MIR⟩ := id H
  obtain ⟨kD, V_DEF⟩ := V_DEF
  obtain ⟨kEA, V_EA⟩ := V_EA
  refine g_aloadN C (pc' := 1) d16_0 rfl rfl rfl ?_
  refine g_initO C (pc' := 4) (wd hw 119 rfl) (wd hw 26 rfl) (wd hw 27 rfl) d16_1 rfl rfl (Nat.le_of_ble_eq_true rfl) (Nat.le_of_ble_eq_true rfl) rfl ?_
  refine g_aloadN C (pc' := 5) d16_4 rfl rfl rfl ?_
  refine g_aloadN C (pc' := 6) d16_5 rfl rfl rfl ?_
  refine g_callS C (pc' := 9) (k' := 2) (n' := 3) (argsL := [(.ref ua)]) (rest := [(.ref a)]) (wd hw 120 rfl) (wd hw 121 rfl) (wd hw 122 rfl) (wd hw 123 rfl) (by decide) d16_6 pd_13 rfl rfl rfl (cpo_1 l Z a0 hw n0 h O s_DEF s_EL s_EA s_EM cs mr H ua ued ukE umc x Ex uP) (Nat.le_of_ble_eq_true rfl) (Nat.le_of_ble_eq_true rfl) (Nat.le_of_ble_eq_true rfl) (Nat.le_of_ble_eq_true rfl) rfl rfl rfl (fun v887 h886 q888 => ?_)
  obtain ⟨uL, rfl, uq1, uq2, uq3⟩ := q888
  have ne_a_uL : a ≠ uL := Nat.ne_of_lt (Nat.lt_of_lt_of_le E0.lt uq1)
  have ne_x_uL : x ≠ uL := Nat.ne_of_lt (Nat.lt_of_lt_of_le Ex.lt uq1)
  have ge_uL : n0 ≤ uL := Nat.le_trans (O.1 ▸ O.2.1) uq1
  have sz_uL : h.size ≤ uL := Nat.le_trans (Keep.refl h [a]).1 uq1
  have f889 := O.keep uq2 all0
  have f890 := (Keep.refl h [a]).trans uq2 all0
  have f891 := E0.keep uq2
  have f892 := F1.keep uq2 nin0
  have f893 := F2.keep uq2 nin0
  have f894 := Ex.keep uq2
  have f895 := own_AL1_keep uP uq2 nin0 nin0
  have f896 := own_AL1_keep vP uq2 nin0 nin0
  show G w _ h886 2 3 9 #[.val (.ref a), .val (.ref ua), .val (.ref va)] [(.ref uL), (.ref a)]
  refine g_putF C (pc' := 12) (ty := (.object "java/util/List")) (wd hw 147 rfl) Via.refl d16_9 rfl f892 f891 (Or.inr ⟨(wd hw 148 rfl), rfl, rfl⟩) (wd hw 114 rfl) (by decide) rfl rfl ga rfl (fun h897 W898 => ?_)
  have f899 := f889.wr W898 ga
  have f900 := f890.wr W898 (Or.inl (List.mem_of_getElem? (i := 0) rfl))
  have f901 := f891.wr W898
  have f902 := f892.same W898
  have f903 := f893.other W898 (Or.inr (slot_ne (Or.inr (wd hw 215 rfl)) (Or.inr (wd hw 148 rfl)) (by decide) (t := (.object "java/util/List")) (t' := (.object "java/util/List")) (by decide) (by decide)))
  have f904 := f894.wr W898
  have f905 := own_AL1_keep f895 (Keep.of_wr W898) (ninS (Ne.symm nau) nin0) (ninS (Ne.symm naue) nin0)
  have f906 := own_AL1_keep f896 (Keep.of_wr W898) (ninS (Ne.symm nav) nin0) (ninS (Ne.symm nave) nin0)
  have f907 := uq3.wr W898
  refine g_aloadN C (pc' := 13) d16_12 rfl rfl rfl ?_
  refine g_aloadN C (pc' := 14) d16_13 rfl rfl rfl ?_
  refine g_callS C (pc' := 17) (k' := 4) (n' := 6) (argsL := [(.ref va)]) (rest := [(.ref a)]) (wd hw 120 rfl) (wd hw 121 rfl) (wd hw 122 rfl) (wd hw 123 rfl) (by decide) d16_14 pd_13 rfl rfl rfl (cpo_1 l Z a0 hw n0 h897 f899 s_DEF s_EL s_EA s_EM cs mr H va ved vkE vmc x f904 f906) (Nat.le_of_ble_eq_true rfl) (Nat.le_of_ble_eq_true rfl) (Nat.le_of_ble_eq_true rfl) (Nat.le_of_ble_eq_true rfl) rfl rfl rfl (fun v909 h908 q910 => ?_)
  obtain ⟨vL, rfl, vq1, vq2, vq3⟩ := q910
  have ne_a_vL : a ≠ vL := Nat.ne_of_lt (Nat.lt_of_lt_of_le f901.lt vq1)
  have ne_x_vL : x ≠ vL := Nat.ne_of_lt (Nat.lt_of_lt_of_le f904.lt vq1)
  have ne_uL_vL : uL ≠ vL := Nat.ne_of_lt (Nat.lt_of_lt_of_le f907.lt vq1)
  have ge_vL : n0 ≤ vL := Nat.le_trans (f899.1 ▸ f899.2.1) vq1
  have sz_vL : h.size ≤ vL := Nat.le_trans f900.1 vq1
  have f911 := f899.keep vq2 all0
  have f912 := f900.trans vq2 all0
  have f913 := f901.keep vq2
  have f914 := f902.keep vq2 nin0
  have f915 := f903.keep vq2 nin0
  have f916 := f904.keep vq2
  have f917 := own_AL1_keep f905 vq2 nin0 nin0
  have f918 := own_AL1_keep f906 vq2 nin0 nin0
  have f919 := f907.keep vq2
  show G w _ h908 4 6 17 #[.val (.ref a), .val (.ref ua), .val (.ref va)] [(.ref vL), (.ref a)]
  refine g_putF C (pc' := 20) (ty := (.object "java/util/List")) (wd hw 214 rfl) Via.refl d16_17 rfl f915 f913 (Or.inr ⟨(wd hw 215 rfl), rfl, rfl⟩) (wd hw 114 rfl) (by decide) rfl rfl ga rfl (fun h920 W921 => ?_)
  have f922 := f911.wr W921 ga
  have f923 := f912.wr W921 (Or.inl (List.mem_of_getElem? (i := 0) rfl))
  have f924 := f913.wr W921
  have f925 := f914.other W921 (Or.inr (slot_ne (Or.inr (wd hw 148 rfl)) (Or.inr (wd hw 215 rfl)) (by decide) (t := (.object "java/util/List")) (t' := (.object "java/util/List")) (by decide) (by decide)))
  have f926 := f915.same W921
  have f927 := f916.wr W921
  have f928 := own_AL1_keep f917 (Keep.of_wr W921) (ninS (Ne.symm nau) nin0) (ninS (Ne.symm naue) nin0)
  have f929 := own_AL1_keep f918 (Keep.of_wr W921) (ninS (Ne.symm nav) nin0) (ninS (Ne.symm nave) nin0)
  have f930 := f919.wr W921
  have f931 := vq3.wr W921
  exact g_return C d16_20 rfl (Nat.le_of_ble_eq_true rfl) (Nat.le_of_ble_eq_true rfl) (⟨rfl, f923, f924, uL, f925, f930⟩)
set_option maxRecDepth 65536 in
set_option maxHeartbeats 40000000 in
theorem gsI_12 (l : Launch) (Z : State) (a0 : Array Value) (hw : ∀ d ∈ tables_1, d.before a0 Z = true) (n0 : Nat) (h : Heap) (O : Old Z n0 h) (s_DEF : Addr) (s_EL : Addr) (s_EA : Addr) (s_EM : Addr) (cs : Int32) (mr : Addr) (H : En Z s_DEF s_EL s_EA s_EM cs mr) (a x : Addr) (ga : n0 ≤ a) (ua ued : Addr) (ukE : ClassId) (umc : Int32) (va ved : Addr) (vkE : ClassId) (vmc : Int32) (E0 : Exa Z h a "com/example/plumbline/plumbline/Grades") (F1 : Fld Z h a "com/example/plumbline/plumbline/Grades" "area" "Ljava/util/List;" .null) (F2 : Fld Z h a "com/example/plumbline/plumbline/Grades" "total" "Ljava/util/List;" .null) (Ex : Exa Z h x "com/example/plumbline/plumbline/Band") (uP : AL1 Z n0 h ua ued ukE umc (1 : Int32) [(.ref x), .null, .null, .null, .null, .null, .null, .null, .null, .null]) (vP : AL1 Z n0 h va ved vkE vmc (2 : Int32) [(.ref x), (.ref x), .null, .null, .null, .null, .null, .null, .null, .null]) (nau : a ≠ ua) (nav : a ≠ va) (naue : a ≠ ued) (nave : a ≠ ved) : Con l Z (⟨"com/example/plumbline/plumbline/Grades", "<init>", "(Ljava/util/List;Ljava/util/List;)V"⟩ : MethodName) prog_32_method_1_code 3 none ({ frames := 8, cells := 4, slots := 7, locals := 102 } : Room) #[(.ref a), (.ref ua), (.ref va)] h n0 (fun v h' => v = none ∧ Keep h h' [a] ∧ Exa Z h' a "com/example/plumbline/plumbline/Grades" ∧ ∃ L, Fld Z h' a "com/example/plumbline/plumbline/Grades" "area" "Ljava/util/List;" (.ref L) ∧ Exa Z h' L "java/util/ImmutableCollections$List12") := by
  refine Con.mk (Ls := #[.val (.ref a), .val (.ref ua), .val (.ref va)]) (plainFor_of_name pn_2) (fun m => by first | (simp [entryFrame, mkF, argsToLocals, Value.category]; done) | rfl) (fun w C => ?_)
  replace C : Cx w l Z "com/example/plumbline/plumbline/Grades" prog_32_method_1_code 3 none "<init>" ({ frames := 8, cells := 4, slots := 7, locals := 102 } : Room) n0 := C
  obtain ⟨S_DEF, E_DEF, V_DEF, S_EL, E_EL, F_EL, V_EA, S_EM, E_EM, S_CS, hcs, MIR⟩ := id H
  obtain ⟨kD, V_DEF⟩ := V_DEF
  obtain ⟨kEA, V_EA⟩ := V_EA
  refine g_aloadN C (pc' := 1) d16_0 rfl rfl rfl ?_
  refine g_initO C (pc' := 4) (wd hw 119 rfl) (wd hw 26 rfl) (wd hw 27 rfl) d16_1 rfl rfl (Nat.le_of_ble_eq_true rfl) (Nat.le_of_ble_eq_true rfl) rfl ?_
  refine g_aloadN C (pc' := 5) d16_4 rfl rfl rfl ?_
  refine g_aloadN C (pc' := 6) d16_5 rfl rfl rfl ?_
  refine g_callS C (pc' := 9) (k' := 2) (n' := 3) (argsL := [(.ref ua)]) (rest := [(.ref a)]) (wd hw 120 rfl) (wd hw 121 rfl) (wd hw 122 rfl) (wd hw 123 rfl) (by decide) d16_6 pd_13 rfl rfl rfl (cpo_1 l Z a0 hw n0 h O s_DEF s_EL s_EA s_EM cs mr H ua ued ukE umc x Ex uP) (Nat.le_of_ble_eq_true rfl) (Nat.le_of_ble_eq_true rfl) (Nat.le_of_ble_eq_true rfl) (Nat.le_of_ble_eq_true rfl) rfl rfl rfl (fun v933 h932 q934 => ?_)
  obtain ⟨uL, rfl, uq1, uq2, uq3⟩ := q934
  have ne_a_uL : a ≠ uL := Nat.ne_of_lt (Nat.lt_of_lt_of_le E0.lt uq1)
  have ne_x_uL : x ≠ uL := Nat.ne_of_lt (Nat.lt_of_lt_of_le Ex.lt uq1)
  have ge_uL : n0 ≤ uL := Nat.le_trans (O.1 ▸ O.2.1) uq1
  have sz_uL : h.size ≤ uL := Nat.le_trans (Keep.refl h [a]).1 uq1
  have f935 := O.keep uq2 all0
  have f936 := (Keep.refl h [a]).trans uq2 all0
  have f937 := E0.keep uq2
  have f938 := F1.keep uq2 nin0
  have f939 := F2.keep uq2 nin0
  have f940 := Ex.keep uq2
  have f941 := own_AL1_keep uP uq2 nin0 nin0
  have f942 := own_AL1_keep vP uq2 nin0 nin0
  show G w _ h932 2 3 9 #[.val (.ref a), .val (.ref ua), .val (.ref va)] [(.ref uL), (.ref a)]
  refine g_putF C (pc' := 12) (ty := (.object "java/util/List")) (wd hw 147 rfl) Via.refl d16_9 rfl f938 f937 (Or.inr ⟨(wd hw 148 rfl), rfl, rfl⟩) (wd hw 114 rfl) (by decide) rfl rfl ga rfl (fun h943 W944 => ?_)
  have f945 := f935.wr W944 ga
  have f946 := f936.wr W944 (Or.inl (List.mem_of_getElem? (i := 0) rfl))
  have f947 := f937.wr W944
  have f948 := f938.same W944
  have f949 := f939.other W944 (Or.inr (slot_ne (Or.inr (wd hw 215 rfl)) (Or.inr (wd hw 148 rfl)) (by decide) (t := (.object "java/util/List")) (t' := (.object "java/util/List")) (by decide) (by decide)))
  have f950 := f940.wr W944
  have f951 := own_AL1_keep f941 (Keep.of_wr W944) (ninS (Ne.symm nau) nin0) (ninS (Ne.symm naue) nin0)
  have f952 := own_AL1_keep f942 (Keep.of_wr W944) (ninS (Ne.symm nav) nin0) (ninS (Ne.symm nave) nin0)
  have f953 := uq3.wr W944
  refine g_aloadN C (pc' := 13) d16_12 rfl rfl rfl ?_
  refine g_aloadN C (pc' := 14) d16_13 rfl rfl rfl ?_
  refine g_callS C (pc' := 17) (k' := 4) (n' := 7) (argsL := [(.ref va)]) (rest := [(.ref a)]) (wd hw 120 rfl) (wd hw 121 rfl) (wd hw 122 rfl) (wd hw 123 rfl) (by decide) d16_14 pd_13 rfl rfl rfl (cpo_2 l Z a0 hw n0 h943 f945 s_DEF s_EL s_EA s_EM cs mr H va ved vkE vmc x x f950 f950 f952) (Nat.le_of_ble_eq_true rfl) (Nat.le_of_ble_eq_true rfl) (Nat.le_of_ble_eq_true rfl) (Nat.le_of_ble_eq_true rfl) rfl rfl rfl (fun v955 h954 q956 => ?_)
  obtain ⟨vL, rfl, vq1, vq2, vq3⟩ := q956
  have ne_a_vL : a ≠ vL := Nat.ne_of_lt (Nat.lt_of_lt_of_le f947.lt vq1)
  have ne_x_vL : x ≠ vL := Nat.ne_of_lt (Nat.lt_of_lt_of_le f950.lt vq1)
  have ne_uL_vL : uL ≠ vL := Nat.ne_of_lt (Nat.lt_of_lt_of_le f953.lt vq1)
  have ge_vL : n0 ≤ vL := Nat.le_trans (f945.1 ▸ f945.2.1) vq1
  have sz_vL : h.size ≤ vL := Nat.le_trans f946.1 vq1
  have f957 := f945.keep vq2 all0
  have f958 := f946.trans vq2 all0
  have f959 := f947.keep vq2
  have f960 := f948.keep vq2 nin0
  have f961 := f949.keep vq2 nin0
  have f962 := f950.keep vq2
  have f963 := own_AL1_keep f951 vq2 nin0 nin0
  have f964 := own_AL1_keep f952 vq2 nin0 nin0
  have f965 := f953.keep vq2
  show G w _ h954 4 7 17 #[.val (.ref a), .val (.ref ua), .val (.ref va)] [(.ref vL), (.ref a)]
  refine g_putF C (pc' := 20) (ty := (.object "java/util/List")) (wd hw 214 rfl) Via.refl d16_17 rfl f961 f959 (Or.inr ⟨(wd hw 215 rfl), rfl, rfl⟩) (wd hw 114 rfl) (by decide) rfl rfl ga rfl (fun h966 W967 => ?_)
  have f968 := f957.wr W967 ga
  have f969 := f958.wr W967 (Or.inl (List.mem_of_getElem? (i := 0) rfl))
  have f970 := f959.wr W967
  have f971 := f960.other W967 (Or.inr (slot_ne (Or.inr (wd hw 148 rfl)) (Or.inr (wd hw 215 rfl)) (by decide) (t := (.object "java/util/List")) (t' := (.object "java/util/List")) (by decide) (by decide)))
  have f972 := f961.same W967
  have f973 := f962.wr W967
  have f974 := own_AL1_keep f963 (Keep.of_wr W967) (ninS (Ne.symm nau) nin0) (ninS (Ne.symm naue) nin0)
  have f975 := own_AL1_keep f964 (Keep.of_wr W967) (ninS (Ne.symm nav) nin0) (ninS (Ne.symm nave) nin0)
  have f976 := f965.wr W967
  have f977 := vq3.wr W967
  exact g_return C d16_20 rfl (Nat.le_of_ble_eq_true rfl) (Nat.le_of_ble_eq_true rfl) (⟨rfl, f969, f970, uL, f971, f976⟩)
set_option maxRecDepth 65536 in
set_option maxHeartbeats 40000000 in
theorem gsI_13 (l : Launch) (Z : State) (a0 : Array Value) (hw : ∀ d ∈ tables_1, d.before a0 Z = true) (n0 : Nat) (h : Heap) (O : Old Z n0 h) (s_DEF : Addr) (s_EL : Addr) (s_EA : Addr) (s_EM : Addr) (cs : Int32) (mr : Addr) (H : En Z s_DEF s_EL s_EA s_EM cs mr) (a x : Addr) (ga : n0 ≤ a) (ua ued : Addr) (ukE : ClassId) (umc : Int32) (va ved : Addr) (vkE : ClassId) (vmc : Int32) (E0 : Exa Z h a "com/example/plumbline/plumbline/Grades") (F1 : Fld Z h a "com/example/plumbline/plumbline/Grades" "area" "Ljava/util/List;" .null) (F2 : Fld Z h a "com/example/plumbline/plumbline/Grades" "total" "Ljava/util/List;" .null) (Ex : Exa Z h x "com/example/plumbline/plumbline/Band") (uP : AL1 Z n0 h ua ued ukE umc (1 : Int32) [(.ref x), .null, .null, .null, .null, .null, .null, .null, .null, .null]) (vP : AL1 Z n0 h va ved vkE vmc (3 : Int32) [(.ref x), (.ref x), (.ref x), .null, .null, .null, .null, .null, .null, .null]) (nau : a ≠ ua) (nav : a ≠ va) (naue : a ≠ ued) (nave : a ≠ ved) : Con l Z (⟨"com/example/plumbline/plumbline/Grades", "<init>", "(Ljava/util/List;Ljava/util/List;)V"⟩ : MethodName) prog_32_method_1_code 3 none ({ frames := 9, cells := 5, slots := 11, locals := 116 } : Room) #[(.ref a), (.ref ua), (.ref va)] h n0 (fun v h' => v = none ∧ Keep h h' [a] ∧ Exa Z h' a "com/example/plumbline/plumbline/Grades" ∧ ∃ L, Fld Z h' a "com/example/plumbline/plumbline/Grades" "area" "Ljava/util/List;" (.ref L) ∧ Exa Z h' L "java/util/ImmutableCollections$List12") := by
  refine Con.mk (Ls := #[.val (.ref a), .val (.ref ua), .val (.ref va)]) (plainFor_of_name pn_2) (fun m => by first | (simp [entryFrame, mkF, argsToLocals, Value.category]; done) | rfl) (fun w C => ?_)
  replace C : Cx w l Z "com/example/plumbline/plumbline/Grades" prog_32_method_1_code 3 none "<init>" ({ frames := 9, cells := 5, slots := 11, locals := 116 } : Room) n0 := C
  obtain ⟨S_DEF, E_DEF, V_DEF, S_EL, E_EL, F_EL, V_EA, S_EM, E_EM, S_CS, hcs, MIR⟩ := id H
  obtain ⟨kD, V_DEF⟩ := V_DEF
  obtain ⟨kEA, V_EA⟩ := V_EA
  refine g_aloadN C (pc' := 1) d16_0 rfl rfl rfl ?_
  refine g_initO C (pc' := 4) (wd hw 119 rfl) (wd hw 26 rfl) (wd hw 27 rfl) d16_1 rfl rfl (Nat.le_of_ble_eq_true rfl) (Nat.le_of_ble_eq_true rfl) rfl ?_
  refine g_aloadN C (pc' := 5) d16_4 rfl rfl rfl ?_
  refine g_aloadN C (pc' := 6) d16_5 rfl rfl rfl ?_
  refine g_callS C (pc' := 9) (k' := 2) (n' := 3) (argsL := [(.ref ua)]) (rest := [(.ref a)]) (wd hw 120 rfl) (wd hw 121 rfl) (wd hw 122 rfl) (wd hw 123 rfl) (by decide) d16_6 pd_13 rfl rfl rfl (cpo_1 l Z a0 hw n0 h O s_DEF s_EL s_EA s_EM cs mr H ua ued ukE umc x Ex uP) (Nat.le_of_ble_eq_true rfl) (Nat.le_of_ble_eq_true rfl) (Nat.le_of_ble_eq_true rfl) (Nat.le_of_ble_eq_true rfl) rfl rfl rfl (fun v979 h978 q980 => ?_)
  obtain ⟨uL, rfl, uq1, uq2, uq3⟩ := q980
  have ne_a_uL : a ≠ uL := Nat.ne_of_lt (Nat.lt_of_lt_of_le E0.lt uq1)
  have ne_x_uL : x ≠ uL := Nat.ne_of_lt (Nat.lt_of_lt_of_le Ex.lt uq1)
  have ge_uL : n0 ≤ uL := Nat.le_trans (O.1 ▸ O.2.1) uq1
  have sz_uL : h.size ≤ uL := Nat.le_trans (Keep.refl h [a]).1 uq1
  have f981 := O.keep uq2 all0
  have f982 := (Keep.refl h [a]).trans uq2 all0
  have f983 := E0.keep uq2
  have f984 := F1.keep uq2 nin0
  have f985 := F2.keep uq2 nin0
  have f986 := Ex.keep uq2
  have f987 := own_AL1_keep uP uq2 nin0 nin0
  have f988 := own_AL1_keep vP uq2 nin0 nin0
  show G w _ h978 2 3 9 #[.val (.ref a), .val (.ref ua), .val (.ref va)] [(.ref uL), (.ref a)]
  refine g_putF C (pc' := 12) (ty := (.object "java/util/List")) (wd hw 147 rfl) Via.refl d16_9 rfl f984 f983 (Or.inr ⟨(wd hw 148 rfl), rfl, rfl⟩) (wd hw 114 rfl) (by decide) rfl rfl ga rfl (fun h989 W990 => ?_)
  have f991 := f981.wr W990 ga
  have f992 := f982.wr W990 (Or.inl (List.mem_of_getElem? (i := 0) rfl))
  have f993 := f983.wr W990
  have f994 := f984.same W990
  have f995 := f985.other W990 (Or.inr (slot_ne (Or.inr (wd hw 215 rfl)) (Or.inr (wd hw 148 rfl)) (by decide) (t := (.object "java/util/List")) (t' := (.object "java/util/List")) (by decide) (by decide)))
  have f996 := f986.wr W990
  have f997 := own_AL1_keep f987 (Keep.of_wr W990) (ninS (Ne.symm nau) nin0) (ninS (Ne.symm naue) nin0)
  have f998 := own_AL1_keep f988 (Keep.of_wr W990) (ninS (Ne.symm nav) nin0) (ninS (Ne.symm nave) nin0)
  have f999 := uq3.wr W990
  refine g_aloadN C (pc' := 13) d16_12 rfl rfl rfl ?_
  refine g_aloadN C (pc' := 14) d16_13 rfl rfl rfl ?_
  refine g_callS C (pc' := 17) (k' := 5) (n' := 11) (argsL := [(.ref va)]) (rest := [(.ref a)]) (wd hw 120 rfl) (wd hw 121 rfl) (wd hw 122 rfl) (wd hw 123 rfl) (by decide) d16_14 pd_13 rfl rfl rfl (cpo_3 l Z a0 hw n0 h989 f991 s_DEF s_EL s_EA s_EM cs mr H va ved vkE vmc x x x f996 f996 f996 f998) (Nat.le_of_ble_eq_true rfl) (Nat.le_of_ble_eq_true rfl) (Nat.le_of_ble_eq_true rfl) (Nat.le_of_ble_eq_true rfl) rfl rfl rfl (fun v1001 h1000 q1002 => ?_)
  obtain ⟨vL, var, vkA, rfl, vq1, vq0, vq2, vq3, vq4, vq5⟩ := q1002
  have ne_a_vL : a ≠ vL := Nat.ne_of_lt (Nat.lt_of_lt_of_le f993.lt vq1)
  have ne_x_vL : x ≠ vL := Nat.ne_of_lt (Nat.lt_of_lt_of_le f996.lt vq1)
  have ne_uL_vL : uL ≠ vL := Nat.ne_of_lt (Nat.lt_of_lt_of_le f999.lt vq1)
  have ge_vL : n0 ≤ vL := Nat.le_trans (f991.1 ▸ f991.2.1) vq1
  have sz_vL : h.size ≤ vL := Nat.le_trans f992.1 vq1
  have ne_a_var : a ≠ var := Nat.ne_of_lt (Nat.lt_of_lt_of_le f993.lt vq0)
  have ne_x_var : x ≠ var := Nat.ne_of_lt (Nat.lt_of_lt_of_le f996.lt vq0)
  have ne_uL_var : uL ≠ var := Nat.ne_of_lt (Nat.lt_of_lt_of_le f999.lt vq0)
  have ge_var : n0 ≤ var := Nat.le_trans (f991.1 ▸ f991.2.1) vq0
  have sz_var : h.size ≤ var := Nat.le_trans f992.1 vq0
  have f1003 := f991.keep vq2 all0
  have f1004 := f992.trans vq2 all0
  have f1005 := f993.keep vq2
  have f1006 := f994.keep vq2 nin0
  have f1007 := f995.keep vq2 nin0
  have f1008 := f996.keep vq2
  have f1009 := own_AL1_keep f997 vq2 nin0 nin0
  have f1010 := own_AL1_keep f998 vq2 nin0 nin0
  have f1011 := f999.keep vq2
  show G w _ h1000 5 11 17 #[.val (.ref a), .val (.ref ua), .val (.ref va)] [(.ref vL), (.ref a)]
  refine g_putF C (pc' := 20) (ty := (.object "java/util/List")) (wd hw 214 rfl) Via.refl d16_17 rfl f1007 f1005 (Or.inr ⟨(wd hw 215 rfl), rfl, rfl⟩) (wd hw 114 rfl) (by decide) rfl rfl ga rfl (fun h1012 W1013 => ?_)
  have f1014 := f1003.wr W1013 ga
  have f1015 := f1004.wr W1013 (Or.inl (List.mem_of_getElem? (i := 0) rfl))
  have f1016 := f1005.wr W1013
  have f1017 := f1006.other W1013 (Or.inr (slot_ne (Or.inr (wd hw 148 rfl)) (Or.inr (wd hw 215 rfl)) (by decide) (t := (.object "java/util/List")) (t' := (.object "java/util/List")) (by decide) (by decide)))
  have f1018 := f1007.same W1013
  have f1019 := f1008.wr W1013
  have f1020 := own_AL1_keep f1009 (Keep.of_wr W1013) (ninS (Ne.symm nau) nin0) (ninS (Ne.symm naue) nin0)
  have f1021 := own_AL1_keep f1010 (Keep.of_wr W1013) (ninS (Ne.symm nav) nin0) (ninS (Ne.symm nave) nin0)
  have f1022 := f1011.wr W1013
  have f1023 := vq3.wr W1013
  have f1024 := vq4.other W1013 (Or.inl (Ne.symm ne_a_vL))
  have f1025 := vq5.other W1013 (Ne.symm ne_a_var)
  exact g_return C d16_20 rfl (Nat.le_of_ble_eq_true rfl) (Nat.le_of_ble_eq_true rfl) (⟨rfl, f1015, f1016, uL, f1017, f1022⟩)
set_option maxRecDepth 65536 in
set_option maxHeartbeats 40000000 in
theorem gsI_20 (l : Launch) (Z : State) (a0 : Array Value) (hw : ∀ d ∈ tables_1, d.before a0 Z = true) (n0 : Nat) (h : Heap) (O : Old Z n0 h) (s_DEF : Addr) (s_EL : Addr) (s_EA : Addr) (s_EM : Addr) (cs : Int32) (mr : Addr) (H : En Z s_DEF s_EL s_EA s_EM cs mr) (a x : Addr) (ga : n0 ≤ a) (ua ued : Addr) (ukE : ClassId) (umc : Int32) (va : Addr) (vmc : Int32) (E0 : Exa Z h a "com/example/plumbline/plumbline/Grades") (F1 : Fld Z h a "com/example/plumbline/plumbline/Grades" "area" "Ljava/util/List;" .null) (F2 : Fld Z h a "com/example/plumbline/plumbline/Grades" "total" "Ljava/util/List;" .null) (Ex : Exa Z h x "com/example/plumbline/plumbline/Band") (uP : AL1 Z n0 h ua ued ukE umc (2 : Int32) [(.ref x), (.ref x), .null, .null, .null, .null, .null, .null, .null, .null]) (vP : AL0 Z n0 h va s_DEF vmc) (nau : a ≠ ua) (nav : a ≠ va) (naue : a ≠ ued) : Con l Z (⟨"com/example/plumbline/plumbline/Grades", "<init>", "(Ljava/util/List;Ljava/util/List;)V"⟩ : MethodName) prog_32_method_1_code 3 none ({ frames := 8, cells := 2, slots := 4, locals := 102 } : Room) #[(.ref a), (.ref ua), (.ref va)] h n0 (fun v h' => v = none ∧ Keep h h' [a] ∧ Exa Z h' a "com/example/plumbline/plumbline/Grades" ∧ ∃ L, Fld Z h' a "com/example/plumbline/plumbline/Grades" "area" "Ljava/util/List;" (.ref L) ∧ Exa Z h' L "java/util/ImmutableCollections$List12") := by
  refine Con.mk (Ls := #[.val (.ref a), .val (.ref ua), .val (.ref va)]) (plainFor_of_name pn_2) (fun m => by first | (simp [entryFrame, mkF, argsToLocals, Value.category]; done) | rfl) (fun w C => ?_)
  replace C : Cx w l Z "com/example/plumbline/plumbline/Grades" prog_32_method_1_code 3 none "<init>" ({ frames := 8, cells := 2, slots := 4, locals := 102 } : Room) n0 := C
  obtain ⟨S_DEF, E_DEF, V_DEF, S_EL, E_EL, F_EL, V_EA, S_EM, E_EM, S_CS, hcs, MIR⟩ := id H
  obtain ⟨kD, V_DEF⟩ := V_DEF
  obtain ⟨kEA, V_EA⟩ := V_EA
  refine g_aloadN C (pc' := 1) d16_0 rfl rfl rfl ?_
  refine g_initO C (pc' := 4) (wd hw 119 rfl) (wd hw 26 rfl) (wd hw 27 rfl) d16_1 rfl rfl (Nat.le_of_ble_eq_true rfl) (Nat.le_of_ble_eq_true rfl) rfl ?_
  refine g_aloadN C (pc' := 5) d16_4 rfl rfl rfl ?_
  refine g_aloadN C (pc' := 6) d16_5 rfl rfl rfl ?_
  refine g_callS C (pc' := 9) (k' := 2) (n' := 4) (argsL := [(.ref ua)]) (rest := [(.ref a)]) (wd hw 120 rfl) (wd hw 121 rfl) (wd hw 122 rfl) (wd hw 123 rfl) (by decide) d16_6 pd_13 rfl rfl rfl (cpo_2 l Z a0 hw n0 h O s_DEF s_EL s_EA s_EM cs mr H ua ued ukE umc x x Ex Ex uP) (Nat.le_of_ble_eq_true rfl) (Nat.le_of_ble_eq_true rfl) (Nat.le_of_ble_eq_true rfl) (Nat.le_of_ble_eq_true rfl) rfl rfl rfl (fun v1027 h1026 q1028 => ?_)
  obtain ⟨uL, rfl, uq1, uq2, uq3⟩ := q1028
  have ne_a_uL : a ≠ uL := Nat.ne_of_lt (Nat.lt_of_lt_of_le E0.lt uq1)
  have ne_x_uL : x ≠ uL := Nat.ne_of_lt (Nat.lt_of_lt_of_le Ex.lt uq1)
  have ge_uL : n0 ≤ uL := Nat.le_trans (O.1 ▸ O.2.1) uq1
  have sz_uL : h.size ≤ uL := Nat.le_trans (Keep.refl h [a]).1 uq1
  have f1029 := O.keep uq2 all0
  have f1030 := (Keep.refl h [a]).trans uq2 all0
  have f1031 := E0.keep uq2
  have f1032 := F1.keep uq2 nin0
  have f1033 := F2.keep uq2 nin0
  have f1034 := Ex.keep uq2
  have f1035 := own_AL1_keep uP uq2 nin0 nin0
  have f1036 := own_AL0_keep vP uq2 nin0
  show G w _ h1026 2 4 9 #[.val (.ref a), .val (.ref ua), .val (.ref va)] [(.ref uL), (.ref a)]
  refine g_putF C (pc' := 12) (ty := (.object "java/util/List")) (wd hw 147 rfl) Via.refl d16_9 rfl f1032 f1031 (Or.inr ⟨(wd hw 148 rfl), rfl, rfl⟩) (wd hw 114 rfl) (by decide) rfl rfl ga rfl (fun h1037 W1038 => ?_)
  have f1039 := f1029.wr W1038 ga
  have f1040 := f1030.wr W1038 (Or.inl (List.mem_of_getElem? (i := 0) rfl))
  have f1041 := f1031.wr W1038
  have f1042 := f1032.same W1038
  have f1043 := f1033.other W1038 (Or.inr (slot_ne (Or.inr (wd hw 215 rfl)) (Or.inr (wd hw 148 rfl)) (by decide) (t := (.object "java/util/List")) (t' := (.object "java/util/List")) (by decide) (by decide)))
  have f1044 := f1034.wr W1038
  have f1045 := own_AL1_keep f1035 (Keep.of_wr W1038) (ninS (Ne.symm nau) nin0) (ninS (Ne.symm naue) nin0)
  have f1046 := own_AL0_keep f1036 (Keep.of_wr W1038) (ninS (Ne.symm nav) nin0)
  have f1047 := uq3.wr W1038
  refine g_aloadN C (pc' := 13) d16_12 rfl rfl rfl ?_
  refine g_aloadN C (pc' := 14) d16_13 rfl rfl rfl ?_
  refine g_callS C (pc' := 17) (k' := 2) (n' := 4) (argsL := [(.ref va)]) (rest := [(.ref a)]) (wd hw 120 rfl) (wd hw 121 rfl) (wd hw 122 rfl) (wd hw 123 rfl) (by decide) d16_14 pd_13 rfl rfl rfl (cpo_0 l Z a0 hw n0 h1037 f1039 s_DEF s_EL s_EA s_EM cs mr H va vmc  f1046) (Nat.le_of_ble_eq_true rfl) (Nat.le_of_ble_eq_true rfl) (Nat.le_of_ble_eq_true rfl) (Nat.le_of_ble_eq_true rfl) rfl rfl rfl (fun v1049 h1048 q1050 => ?_)
  obtain ⟨rfl, eh1048⟩ := q1050
  subst h1048
  show G w _ h1037 2 4 17 #[.val (.ref a), .val (.ref ua), .val (.ref va)] [(.ref s_EL), (.ref a)]
  refine g_putF C (pc' := 20) (ty := (.object "java/util/List")) (wd hw 214 rfl) Via.refl d16_17 rfl f1043 f1041 (Or.inr ⟨(wd hw 215 rfl), rfl, rfl⟩) (wd hw 114 rfl) (by decide) rfl rfl ga rfl (fun h1051 W1052 => ?_)
  have f1053 := f1039.wr W1052 ga
  have f1054 := f1040.wr W1052 (Or.inl (List.mem_of_getElem? (i := 0) rfl))
  have f1055 := f1041.wr W1052
  have f1056 := f1042.other W1052 (Or.inr (slot_ne (Or.inr (wd hw 148 rfl)) (Or.inr (wd hw 215 rfl)) (by decide) (t := (.object "java/util/List")) (t' := (.object "java/util/List")) (by decide) (by decide)))
  have f1057 := f1043.same W1052
  have f1058 := f1044.wr W1052
  have f1059 := own_AL1_keep f1045 (Keep.of_wr W1052) (ninS (Ne.symm nau) nin0) (ninS (Ne.symm naue) nin0)
  have f1060 := own_AL0_keep f1046 (Keep.of_wr W1052) (ninS (Ne.symm nav) nin0)
  have f1061 := f1047.wr W1052
  exact g_return C d16_20 rfl (Nat.le_of_ble_eq_true rfl) (Nat.le_of_ble_eq_true rfl) (⟨rfl, f1054, f1055, uL, f1056, f1061⟩)
set_option maxRecDepth 65536 in
set_option maxHeartbeats 40000000 in
theorem gsI_21 (l : Launch) (Z : State) (a0 : Array Value) (hw : ∀ d ∈ tables_1, d.before a0 Z = true) (n0 : Nat) (h : Heap) (O : Old Z n0 h) (s_DEF : Addr) (s_EL : Addr) (s_EA : Addr) (s_EM : Addr) (cs : Int32) (mr : Addr) (H : En Z s_DEF s_EL s_EA s_EM cs mr) (a x : Addr) (ga : n0 ≤ a) (ua ued : Addr) (ukE : ClassId) (umc : Int32) (va ved : Addr) (vkE : ClassId) (vmc : Int32) (E0 : Exa Z h a "com/example/plumbline/plumbline/Grades") (F1 : Fld Z h a "com/example/plumbline/plumbline/Grades" "area" "Ljava/util/List;" .null) (F2 : Fld Z h a "com/example/plumbline/plumbline/Grades" "total" "Ljava/util/List;" .null) (Ex : Exa Z h x "com/example/plumbline/plumbline/Band") (uP : AL1 Z n0 h ua ued ukE umc (2 : Int32) [(.ref x), (.ref x), .null, .null, .null, .null, .null, .null, .null, .null]) (vP : AL1 Z n0 h va ved vkE vmc (1 : Int32) [(.ref x), .null, .null, .null, .null, .null, .null, .null, .null, .null]) (nau : a ≠ ua) (nav : a ≠ va) (naue : a ≠ ued) (nave : a ≠ ved) : Con l Z (⟨"com/example/plumbline/plumbline/Grades", "<init>", "(Ljava/util/List;Ljava/util/List;)V"⟩ : MethodName) prog_32_method_1_code 3 none ({ frames := 8, cells := 4, slots := 7, locals := 102 } : Room) #[(.ref a), (.ref ua), (.ref va)] h n0 (fun v h' => v = none ∧ Keep h h' [a] ∧ Exa Z h' a "com/example/plumbline/plumbline/Grades" ∧ ∃ L, Fld Z h' a "com/example/plumbline/plumbline/Grades" "area" "Ljava/util/List;" (.ref L) ∧ Exa Z h' L "java/util/ImmutableCollections$List12") := by
  refine Con.mk (Ls := #[.val (.ref a), .val (.ref ua), .val (.ref va)]) (plainFor_of_name pn_2) (fun m => by first | (simp [entryFrame, mkF, argsToLocals, Value.category]; done) | rfl) (fun w C => ?_)
  replace C : Cx w l Z "com/example/plumbline/plumbline/Grades" prog_32_method_1_code 3 none "<init>" ({ frames := 8, cells := 4, slots := 7, locals := 102 } : Room) n0 := C
  obtain ⟨S_DEF, E_DEF, V_DEF, S_EL, E_EL, F_EL, V_EA, S_EM, E_EM, S_CS, hcs, MIR⟩ := id H
  obtain ⟨kD, V_DEF⟩ := V_DEF
  obtain ⟨kEA, V_EA⟩ := V_EA
  refine g_aloadN C (pc' := 1) d16_0 rfl rfl rfl ?_
  refine g_initO C (pc' := 4) (wd hw 119 rfl) (wd hw 26 rfl) (wd hw 27 rfl) d16_1 rfl rfl (Nat.le_of_ble_eq_true rfl) (Nat.le_of_ble_eq_true rfl) rfl ?_
  refine g_aloadN C (pc' := 5) d16_4 rfl rfl rfl ?_
  refine g_aloadN C (pc' := 6) d16_5 rfl rfl rfl ?_
  refine g_callS C (pc' := 9) (k' := 2) (n' := 4) (argsL := [(.ref ua)]) (rest := [(.ref a)]) (wd hw 120 rfl) (wd hw 121 rfl) (wd hw 122 rfl) (wd hw 123 rfl) (by decide) d16_6 pd_13 rfl rfl rfl (cpo_2 l Z a0 hw n0 h O s_DEF s_EL s_EA s_EM cs mr H ua ued ukE umc x x Ex Ex uP) (Nat.le_of_ble_eq_true rfl) (Nat.le_of_ble_eq_true rfl) (Nat.le_of_ble_eq_true rfl) (Nat.le_of_ble_eq_true rfl) rfl rfl rfl (fun v1063 h1062 q1064 => ?_)
  obtain ⟨uL, rfl, uq1, uq2, uq3⟩ := q1064
  have ne_a_uL : a ≠ uL := Nat.ne_of_lt (Nat.lt_of_lt_of_le E0.lt uq1)
  have ne_x_uL : x ≠ uL := Nat.ne_of_lt (Nat.lt_of_lt_of_le Ex.lt uq1)
  have ge_uL : n0 ≤ uL := Nat.le_trans (O.1 ▸ O.2.1) uq1
  have sz_uL : h.size ≤ uL := Nat.le_trans (Keep.refl h [a]).1 uq1
  have f1065 := O.keep uq2 all0
  have f1066 := (Keep.refl h [a]).trans uq2 all0
  have f1067 := E0.keep uq2
  have f1068 := F1.keep uq2 nin0
  have f1069 := F2.keep uq2 nin0
  have f1070 := Ex.keep uq2
  have f1071 := own_AL1_keep uP uq2 nin0 nin0
  have f1072 := own_AL1_keep vP uq2 nin0 nin0
  show G w _ h1062 2 4 9 #[.val (.ref a), .val (.ref ua), .val (.ref va)] [(.ref uL), (.ref a)]
  refine g_putF C (pc' := 12) (ty := (.object "java/util/List")) (wd hw 147 rfl) Via.refl d16_9 rfl f1068 f1067 (Or.inr ⟨(wd hw 148 rfl), rfl, rfl⟩) (wd hw 114 rfl) (by decide) rfl rfl ga rfl (fun h1073 W1074 => ?_)
  have f1075 := f1065.wr W1074 ga
  have f1076 := f1066.wr W1074 (Or.inl (List.mem_of_getElem? (i := 0) rfl))
  have f1077 := f1067.wr W1074
  have f1078 := f1068.same W1074
  have f1079 := f1069.other W1074 (Or.inr (slot_ne (Or.inr (wd hw 215 rfl)) (Or.inr (wd hw 148 rfl)) (by decide) (t := (.object "java/util/List")) (t' := (.object "java/util/List")) (by decide) (by decide)))
  have f1080 := f1070.wr W1074
  have f1081 := own_AL1_keep f1071 (Keep.of_wr W1074) (ninS (Ne.symm nau) nin0) (ninS (Ne.symm naue) nin0)
  have f1082 := own_AL1_keep f1072 (Keep.of_wr W1074) (ninS (Ne.symm nav) nin0) (ninS (Ne.symm nave) nin0)
  have f1083 := uq3.wr W1074
  refine g_aloadN C (pc' := 13) d16_12 rfl rfl rfl ?_
  refine g_aloadN C (pc' := 14) d16_13 rfl rfl rfl ?_
  refine g_callS C (pc' := 17) (k' := 4) (n' := 7) (argsL := [(.ref va)]) (rest := [(.ref a)]) (wd hw 120 rfl) (wd hw 121 rfl) (wd hw 122 rfl) (wd hw 123 rfl) (by decide) d16_14 pd_13 rfl rfl rfl (cpo_1 l Z a0 hw n0 h1073 f1075 s_DEF s_EL s_EA s_EM cs mr H va ved vkE vmc x f1080 f1082) (Nat.le_of_ble_eq_true rfl) (Nat.le_of_ble_eq_true rfl) (Nat.le_of_ble_eq_true rfl) (Nat.le_of_ble_eq_true rfl) rfl rfl rfl (fun v1085 h1084 q1086 => ?_)
  obtain ⟨vL, rfl, vq1, vq2, vq3⟩ := q1086
  have ne_a_vL : a ≠ vL := Nat.ne_of_lt (Nat.lt_of_lt_of_le f1077.lt vq1)
  have ne_x_vL : x ≠ vL := Nat.ne_of_lt (Nat.lt_of_lt_of_le f1080.lt vq1)
  have ne_uL_vL : uL ≠ vL := Nat.ne_of_lt (Nat.lt_of_lt_of_le f1083.lt vq1)
  have ge_vL : n0 ≤ vL := Nat.le_trans (f1075.1 ▸ f1075.2.1) vq1
  have sz_vL : h.size ≤ vL := Nat.le_trans f1076.1 vq1
  have f1087 := f1075.keep vq2 all0
  have f1088 := f1076.trans vq2 all0
  have f1089 := f1077.keep vq2
  have f1090 := f1078.keep vq2 nin0
  have f1091 := f1079.keep vq2 nin0
  have f1092 := f1080.keep vq2
  have f1093 := own_AL1_keep f1081 vq2 nin0 nin0
  have f1094 := own_AL1_keep f1082 vq2 nin0 nin0
  have f1095 := f1083.keep vq2
  show G w _ h1084 4 7 17 #[.val (.ref a), .val (.ref ua), .val (.ref va)] [(.ref vL), (.ref a)]
  refine g_putF C (pc' := 20) (ty := (.object "java/util/List")) (wd hw 214 rfl) Via.refl d16_17 rfl f1091 f1089 (Or.inr ⟨(wd hw 215 rfl), rfl, rfl⟩) (wd hw 114 rfl) (by decide) rfl rfl ga rfl (fun h1096 W1097 => ?_)
  have f1098 := f1087.wr W1097 ga
  have f1099 := f1088.wr W1097 (Or.inl (List.mem_of_getElem? (i := 0) rfl))
  have f1100 := f1089.wr W1097
  have f1101 := f1090.other W1097 (Or.inr (slot_ne (Or.inr (wd hw 148 rfl)) (Or.inr (wd hw 215 rfl)) (by decide) (t := (.object "java/util/List")) (t' := (.object "java/util/List")) (by decide) (by decide)))
  have f1102 := f1091.same W1097
  have f1103 := f1092.wr W1097
  have f1104 := own_AL1_keep f1093 (Keep.of_wr W1097) (ninS (Ne.symm nau) nin0) (ninS (Ne.symm naue) nin0)
  have f1105 := own_AL1_keep f1094 (Keep.of_wr W1097) (ninS (Ne.symm nav) nin0) (ninS (Ne.symm nave) nin0)
  have f1106 := f1095.wr W1097
  have f1107 := vq3.wr W1097
  exact g_return C d16_20 rfl (Nat.le_of_ble_eq_true rfl) (Nat.le_of_ble_eq_true rfl) (⟨rfl, f1099, f1100, uL, f1101, f1106⟩)
set_option maxRecDepth 65536 in
set_option maxHeartbeats 40000000 in
theorem gsI_22 (l : Launch) (Z : State) (a0 : Array Value) (hw : ∀ d ∈ tables_1, d.before a0 Z = true) (n0 : Nat) (h : Heap) (O : Old Z n0 h) (s_DEF : Addr) (s_EL : Addr) (s_EA : Addr) (s_EM : Addr) (cs : Int32) (mr : Addr) (H : En Z s_DEF s_EL s_EA s_EM cs mr) (a x : Addr) (ga : n0 ≤ a) (ua ued : Addr) (ukE : ClassId) (umc : Int32) (va ved : Addr) (vkE : ClassId) (vmc : Int32) (E0 : Exa Z h a "com/example/plumbline/plumbline/Grades") (F1 : Fld Z h a "com/example/plumbline/plumbline/Grades" "area" "Ljava/util/List;" .null) (F2 : Fld Z h a "com/example/plumbline/plumbline/Grades" "total" "Ljava/util/List;" .null) (Ex : Exa Z h x "com/example/plumbline/plumbline/Band") (uP : AL1 Z n0 h ua ued ukE umc (2 : Int32) [(.ref x), (.ref x), .null, .null, .null, .null, .null, .null, .null, .null]) (vP : AL1 Z n0 h va ved vkE vmc (2 : Int32) [(.ref x), (.ref x), .null, .null, .null, .null, .null, .null, .null, .null]) (nau : a ≠ ua) (nav : a ≠ va) (naue : a ≠ ued) (nave : a ≠ ved) : Con l Z (⟨"com/example/plumbline/plumbline/Grades", "<init>", "(Ljava/util/List;Ljava/util/List;)V"⟩ : MethodName) prog_32_method_1_code 3 none ({ frames := 8, cells := 4, slots := 8, locals := 102 } : Room) #[(.ref a), (.ref ua), (.ref va)] h n0 (fun v h' => v = none ∧ Keep h h' [a] ∧ Exa Z h' a "com/example/plumbline/plumbline/Grades" ∧ ∃ L, Fld Z h' a "com/example/plumbline/plumbline/Grades" "area" "Ljava/util/List;" (.ref L) ∧ Exa Z h' L "java/util/ImmutableCollections$List12") := by
  refine Con.mk (Ls := #[.val (.ref a), .val (.ref ua), .val (.ref va)]) (plainFor_of_name pn_2) (fun m => by first | (simp [entryFrame, mkF, argsToLocals, Value.category]; done) | rfl) (fun w C => ?_)
  replace C : Cx w l Z "com/example/plumbline/plumbline/Grades" prog_32_method_1_code 3 none "<init>" ({ frames := 8, cells := 4, slots := 8, locals := 102 } : Room) n0 := C
  obtain ⟨S_DEF, E_DEF, V_DEF, S_EL, E_EL, F_EL, V_EA, S_EM, E_EM, S_CS, hcs, MIR⟩ := id H
  obtain ⟨kD, V_DEF⟩ := V_DEF
  obtain ⟨kEA, V_EA⟩ := V_EA
  refine g_aloadN C (pc' := 1) d16_0 rfl rfl rfl ?_
  refine g_initO C (pc' := 4) (wd hw 119 rfl) (wd hw 26 rfl) (wd hw 27 rfl) d16_1 rfl rfl (Nat.le_of_ble_eq_true rfl) (Nat.le_of_ble_eq_true rfl) rfl ?_
  refine g_aloadN C (pc' := 5) d16_4 rfl rfl rfl ?_
  refine g_aloadN C (pc' := 6) d16_5 rfl rfl rfl ?_
  refine g_callS C (pc' := 9) (k' := 2) (n' := 4) (argsL := [(.ref ua)]) (rest := [(.ref a)]) (wd hw 120 rfl) (wd hw 121 rfl) (wd hw 122 rfl) (wd hw 123 rfl) (by decide) d16_6 pd_13 rfl rfl rfl (cpo_2 l Z a0 hw n0 h O s_DEF s_EL s_EA s_EM cs mr H ua ued ukE umc x x Ex Ex uP) (Nat.le_of_ble_eq_true rfl) (Nat.le_of_ble_eq_true rfl) (Nat.le_of_ble_eq_true rfl) (Nat.le_of_ble_eq_true rfl) rfl rfl rfl (fun v1109 h1108 q1110 => ?_)
  obtain ⟨uL, rfl, uq1, uq2, uq3⟩ := q1110
  have ne_a_uL : a ≠ uL := Nat.ne_of_lt (Nat.lt_of_lt_of_le E0.lt uq1)
  have ne_x_uL : x ≠ uL := Nat.ne_of_lt (Nat.lt_of_lt_of_le Ex.lt uq1)
  have ge_uL : n0 ≤ uL := Nat.le_trans (O.1 ▸ O.2.1) uq1
  have sz_uL : h.size ≤ uL := Nat.le_trans (Keep.refl h [a]).1 uq1
  have f1111 := O.keep uq2 all0
  have f1112 := (Keep.refl h [a]).trans uq2 all0
  have f1113 := E0.keep uq2
  have f1114 := F1.keep uq2 nin0
  have f1115 := F2.keep uq2 nin0
  have f1116 := Ex.keep uq2
  have f1117 := own_AL1_keep uP uq2 nin0 nin0
  have f1118 := own_AL1_keep vP uq2 nin0 nin0
  show G w _ h1108 2 4 9 #[.val (.ref a), .val (.ref ua), .val (.ref va)] [(.ref uL), (.ref a)]
  refine g_putF C (pc' := 12) (ty := (.object "java/util/List")) (wd hw 147 rfl) Via.refl d16_9 rfl f1114 f1113 (Or.inr ⟨(wd hw 148 rfl), rfl, rfl⟩) (wd hw 114 rfl) (by decide) rfl rfl ga rfl (fun h1119 W1120 => ?_)
  have f1121 := f1111.wr W1120 ga
  have f1122 := f1112.wr W1120 (Or.inl (List.mem_of_getElem? (i := 0) rfl))
  have f1123 := f1113.wr W1120
  have f1124 := f1114.same W1120
  have f1125 := f1115.other W1120 (Or.inr (slot_ne (Or.inr (wd hw 215 rfl)) (Or.inr (wd hw 148 rfl)) (by decide) (t := (.object "java/util/List")) (t' := (.object "java/util/List")) (by decide) (by decide)))
  have f1126 := f1116.wr W1120
  have f1127 := own_AL1_keep f1117 (Keep.of_wr W1120) (ninS (Ne.symm nau) nin0) (ninS (Ne.symm naue) nin0)
  have f1128 := own_AL1_keep f1118 (Keep.of_wr W1120) (ninS (Ne.symm nav) nin0) (ninS (Ne.symm nave) nin0)
  have f1129 := uq3.wr W1120
  refine g_aloadN C (pc' := 13) d16_12 rfl rfl rfl ?_
  refine g_aloadN C (pc' := 14) d16_13 rfl rfl rfl ?_
  refine g_callS C (pc' := 17) (k' := 4) (n' := 8) (argsL := [(.ref va)]) (rest := [(.ref a)]) (wd hw 120 rfl) (wd hw 121 rfl) (wd hw 122 rfl) (wd hw 123 rfl) (by decide) d16_14 pd_13 rfl rfl rfl (cpo_2 l Z a0 hw n0 h1119 f1121 s_DEF s_EL s_EA s_EM cs mr H va ved vkE vmc x x f1126 f1126 f1128) (Nat.le_of_ble_eq_true rfl) (Nat.le_of_ble_eq_true rfl) (Nat.le_of_ble_eq_true rfl) (Nat.le_of_ble_eq_true rfl) rfl rfl rfl (fun v1131 h1130 q1132 => ?_)
  obtain ⟨vL, rfl, vq1, vq2, vq3⟩ := q1132
  have ne_a_vL : a ≠ vL := Nat.ne_of_lt (Nat.lt_of_lt_of_le f1123.lt vq1)
  have ne_x_vL : x ≠ vL := Nat.ne_of_lt (Nat.lt_of_lt_of_le f1126.lt vq1)
  have ne_uL_vL : uL ≠ vL := Nat.ne_of_lt (Nat.lt_of_lt_of_le f1129.lt vq1)
  have ge_vL : n0 ≤ vL := Nat.le_trans (f1121.1 ▸ f1121.2.1) vq1
  have sz_vL : h.size ≤ vL := Nat.le_trans f1122.1 vq1
  have f1133 := f1121.keep vq2 all0
  have f1134 := f1122.trans vq2 all0
  have f1135 := f1123.keep vq2
  have f1136 := f1124.keep vq2 nin0
  have f1137 := f1125.keep vq2 nin0
  have f1138 := f1126.keep vq2
  have f1139 := own_AL1_keep f1127 vq2 nin0 nin0
  have f1140 := own_AL1_keep f1128 vq2 nin0 nin0
  have f1141 := f1129.keep vq2
  show G w _ h1130 4 8 17 #[.val (.ref a), .val (.ref ua), .val (.ref va)] [(.ref vL), (.ref a)]
  refine g_putF C (pc' := 20) (ty := (.object "java/util/List")) (wd hw 214 rfl) Via.refl d16_17 rfl f1137 f1135 (Or.inr ⟨(wd hw 215 rfl), rfl, rfl⟩) (wd hw 114 rfl) (by decide) rfl rfl ga rfl (fun h1142 W1143 => ?_)
  have f1144 := f1133.wr W1143 ga
  have f1145 := f1134.wr W1143 (Or.inl (List.mem_of_getElem? (i := 0) rfl))
  have f1146 := f1135.wr W1143
  have f1147 := f1136.other W1143 (Or.inr (slot_ne (Or.inr (wd hw 148 rfl)) (Or.inr (wd hw 215 rfl)) (by decide) (t := (.object "java/util/List")) (t' := (.object "java/util/List")) (by decide) (by decide)))
  have f1148 := f1137.same W1143
  have f1149 := f1138.wr W1143
  have f1150 := own_AL1_keep f1139 (Keep.of_wr W1143) (ninS (Ne.symm nau) nin0) (ninS (Ne.symm naue) nin0)
  have f1151 := own_AL1_keep f1140 (Keep.of_wr W1143) (ninS (Ne.symm nav) nin0) (ninS (Ne.symm nave) nin0)
  have f1152 := f1141.wr W1143
  have f1153 := vq3.wr W1143
  exact g_return C d16_20 rfl (Nat.le_of_ble_eq_true rfl) (Nat.le_of_ble_eq_true rfl) (⟨rfl, f1145, f1146, uL, f1147, f1152⟩)
set_option maxRecDepth 65536 in
set_option maxHeartbeats 40000000 in
theorem gsI_23 (l : Launch) (Z : State) (a0 : Array Value) (hw : ∀ d ∈ tables_1, d.before a0 Z = true) (n0 : Nat) (h : Heap) (O : Old Z n0 h) (s_DEF : Addr) (s_EL : Addr) (s_EA : Addr) (s_EM : Addr) (cs : Int32) (mr : Addr) (H : En Z s_DEF s_EL s_EA s_EM cs mr) (a x : Addr) (ga : n0 ≤ a) (ua ued : Addr) (ukE : ClassId) (umc : Int32) (va ved : Addr) (vkE : ClassId) (vmc : Int32) (E0 : Exa Z h a "com/example/plumbline/plumbline/Grades") (F1 : Fld Z h a "com/example/plumbline/plumbline/Grades" "area" "Ljava/util/List;" .null) (F2 : Fld Z h a "com/example/plumbline/plumbline/Grades" "total" "Ljava/util/List;" .null) (Ex : Exa Z h x "com/example/plumbline/plumbline/Band") (uP : AL1 Z n0 h ua ued ukE umc (2 : Int32) [(.ref x), (.ref x), .null, .null, .null, .null, .null, .null, .null, .null]) (vP : AL1 Z n0 h va ved vkE vmc (3 : Int32) [(.ref x), (.ref x), (.ref x), .null, .null, .null, .null, .null, .null, .null]) (nau : a ≠ ua) (nav : a ≠ va) (naue : a ≠ ued) (nave : a ≠ ved) : Con l Z (⟨"com/example/plumbline/plumbline/Grades", "<init>", "(Ljava/util/List;Ljava/util/List;)V"⟩ : MethodName) prog_32_method_1_code 3 none ({ frames := 9, cells := 5, slots := 12, locals := 116 } : Room) #[(.ref a), (.ref ua), (.ref va)] h n0 (fun v h' => v = none ∧ Keep h h' [a] ∧ Exa Z h' a "com/example/plumbline/plumbline/Grades" ∧ ∃ L, Fld Z h' a "com/example/plumbline/plumbline/Grades" "area" "Ljava/util/List;" (.ref L) ∧ Exa Z h' L "java/util/ImmutableCollections$List12") := by
  refine Con.mk (Ls := #[.val (.ref a), .val (.ref ua), .val (.ref va)]) (plainFor_of_name pn_2) (fun m => by first | (simp [entryFrame, mkF, argsToLocals, Value.category]; done) | rfl) (fun w C => ?_)
  replace C : Cx w l Z "com/example/plumbline/plumbline/Grades" prog_32_method_1_code 3 none "<init>" ({ frames := 9, cells := 5, slots := 12, locals := 116 } : Room) n0 := C
  obtain ⟨S_DEF, E_DEF, V_DEF, S_EL, E_EL, F_EL, V_EA, S_EM, E_EM, S_CS, hcs, MIR⟩ := id H
  obtain ⟨kD, V_DEF⟩ := V_DEF
  obtain ⟨kEA, V_EA⟩ := V_EA
  refine g_aloadN C (pc' := 1) d16_0 rfl rfl rfl ?_
  refine g_initO C (pc' := 4) (wd hw 119 rfl) (wd hw 26 rfl) (wd hw 27 rfl) d16_1 rfl rfl (Nat.le_of_ble_eq_true rfl) (Nat.le_of_ble_eq_true rfl) rfl ?_
  refine g_aloadN C (pc' := 5) d16_4 rfl rfl rfl ?_
  refine g_aloadN C (pc' := 6) d16_5 rfl rfl rfl ?_
  refine g_callS C (pc' := 9) (k' := 2) (n' := 4) (argsL := [(.ref ua)]) (rest := [(.ref a)]) (wd hw 120 rfl) (wd hw 121 rfl) (wd hw 122 rfl) (wd hw 123 rfl) (by decide) d16_6 pd_13 rfl rfl rfl (cpo_2 l Z a0 hw n0 h O s_DEF s_EL s_EA s_EM cs mr H ua ued ukE umc x x Ex Ex uP) (Nat.le_of_ble_eq_true rfl) (Nat.le_of_ble_eq_true rfl) (Nat.le_of_ble_eq_true rfl) (Nat.le_of_ble_eq_true rfl) rfl rfl rfl (fun v1155 h1154 q1156 => ?_)
  obtain ⟨uL, rfl, uq1, uq2, uq3⟩ := q1156
  have ne_a_uL : a ≠ uL := Nat.ne_of_lt (Nat.lt_of_lt_of_le E0.lt uq1)
  have ne_x_uL : x ≠ uL := Nat.ne_of_lt (Nat.lt_of_lt_of_le Ex.lt uq1)
  have ge_uL : n0 ≤ uL := Nat.le_trans (O.1 ▸ O.2.1) uq1
  have sz_uL : h.size ≤ uL := Nat.le_trans (Keep.refl h [a]).1 uq1
  have f1157 := O.keep uq2 all0
  have f1158 := (Keep.refl h [a]).trans uq2 all0
  have f1159 := E0.keep uq2
  have f1160 := F1.keep uq2 nin0
  have f1161 := F2.keep uq2 nin0
  have f1162 := Ex.keep uq2
  have f1163 := own_AL1_keep uP uq2 nin0 nin0
  have f1164 := own_AL1_keep vP uq2 nin0 nin0
  show G w _ h1154 2 4 9 #[.val (.ref a), .val (.ref ua), .val (.ref va)] [(.ref uL), (.ref a)]
  refine g_putF C (pc' := 12) (ty := (.object "java/util/List")) (wd hw 147 rfl) Via.refl d16_9 rfl f1160 f1159 (Or.inr ⟨(wd hw 148 rfl), rfl, rfl⟩) (wd hw 114 rfl) (by decide) rfl rfl ga rfl (fun h1165 W1166 => ?_)
  have f1167 := f1157.wr W1166 ga
  have f1168 := f1158.wr W1166 (Or.inl (List.mem_of_getElem? (i := 0) rfl))
  have f1169 := f1159.wr W1166
  have f1170 := f1160.same W1166
  have f1171 := f1161.other W1166 (Or.inr (slot_ne (Or.inr (wd hw 215 rfl)) (Or.inr (wd hw 148 rfl)) (by decide) (t := (.object "java/util/List")) (t' := (.object "java/util/List")) (by decide) (by decide)))
  have f1172 := f1162.wr W1166
  have f1173 := own_AL1_keep f1163 (Keep.of_wr W1166) (ninS (Ne.symm nau) nin0) (ninS (Ne.symm naue) nin0)
  have f1174 := own_AL1_keep f1164 (Keep.of_wr W1166) (ninS (Ne.symm nav) nin0) (ninS (Ne.symm nave) nin0)
  have f1175 := uq3.wr W1166
  refine g_aloadN C (pc' := 13) d16_12 rfl rfl rfl ?_
  refine g_aloadN C (pc' := 14) d16_13 rfl rfl rfl ?_
  refine g_callS C (pc' := 17) (k' := 5) (n' := 12) (argsL := [(.ref va)]) (rest := [(.ref a)]) (wd hw 120 rfl) (wd hw 121 rfl) (wd hw 122 rfl) (wd hw 123 rfl) (by decide) d16_14 pd_13 rfl rfl rfl (cpo_3 l Z a0 hw n0 h1165 f1167 s_DEF s_EL s_EA s_EM cs mr H va ved vkE vmc x x x f1172 f1172 f1172 f1174) (Nat.le_of_ble_eq_true rfl) (Nat.le_of_ble_eq_true rfl) (Nat.le_of_ble_eq_true rfl) (Nat.le_of_ble_eq_true rfl) rfl rfl rfl (fun v1177 h1176 q1178 => ?_)
  obtain ⟨vL, var, vkA, rfl, vq1, vq0, vq2, vq3, vq4, vq5⟩ := q1178
  have ne_a_vL : a ≠ vL := Nat.ne_of_lt (Nat.lt_of_lt_of_le f1169.lt vq1)
  have ne_x_vL : x ≠ vL := Nat.ne_of_lt (Nat.lt_of_lt_of_le f1172.lt vq1)
  have ne_uL_vL : uL ≠ vL := Nat.ne_of_lt (Nat.lt_of_lt_of_le f1175.lt vq1)
  have ge_vL : n0 ≤ vL := Nat.le_trans (f1167.1 ▸ f1167.2.1) vq1
  have sz_vL : h.size ≤ vL := Nat.le_trans f1168.1 vq1
  have ne_a_var : a ≠ var := Nat.ne_of_lt (Nat.lt_of_lt_of_le f1169.lt vq0)
  have ne_x_var : x ≠ var := Nat.ne_of_lt (Nat.lt_of_lt_of_le f1172.lt vq0)
  have ne_uL_var : uL ≠ var := Nat.ne_of_lt (Nat.lt_of_lt_of_le f1175.lt vq0)
  have ge_var : n0 ≤ var := Nat.le_trans (f1167.1 ▸ f1167.2.1) vq0
  have sz_var : h.size ≤ var := Nat.le_trans f1168.1 vq0
  have f1179 := f1167.keep vq2 all0
  have f1180 := f1168.trans vq2 all0
  have f1181 := f1169.keep vq2
  have f1182 := f1170.keep vq2 nin0
  have f1183 := f1171.keep vq2 nin0
  have f1184 := f1172.keep vq2
  have f1185 := own_AL1_keep f1173 vq2 nin0 nin0
  have f1186 := own_AL1_keep f1174 vq2 nin0 nin0
  have f1187 := f1175.keep vq2
  show G w _ h1176 5 12 17 #[.val (.ref a), .val (.ref ua), .val (.ref va)] [(.ref vL), (.ref a)]
  refine g_putF C (pc' := 20) (ty := (.object "java/util/List")) (wd hw 214 rfl) Via.refl d16_17 rfl f1183 f1181 (Or.inr ⟨(wd hw 215 rfl), rfl, rfl⟩) (wd hw 114 rfl) (by decide) rfl rfl ga rfl (fun h1188 W1189 => ?_)
  have f1190 := f1179.wr W1189 ga
  have f1191 := f1180.wr W1189 (Or.inl (List.mem_of_getElem? (i := 0) rfl))
  have f1192 := f1181.wr W1189
  have f1193 := f1182.other W1189 (Or.inr (slot_ne (Or.inr (wd hw 148 rfl)) (Or.inr (wd hw 215 rfl)) (by decide) (t := (.object "java/util/List")) (t' := (.object "java/util/List")) (by decide) (by decide)))
  have f1194 := f1183.same W1189
  have f1195 := f1184.wr W1189
  have f1196 := own_AL1_keep f1185 (Keep.of_wr W1189) (ninS (Ne.symm nau) nin0) (ninS (Ne.symm naue) nin0)
  have f1197 := own_AL1_keep f1186 (Keep.of_wr W1189) (ninS (Ne.symm nav) nin0) (ninS (Ne.symm nave) nin0)
  have f1198 := f1187.wr W1189
  have f1199 := vq3.wr W1189
  have f1200 := vq4.other W1189 (Or.inl (Ne.symm ne_a_vL))
  have f1201 := vq5.other W1189 (Ne.symm ne_a_var)
  exact g_return C d16_20 rfl (Nat.le_of_ble_eq_true rfl) (Nat.le_of_ble_eq_true rfl) (⟨rfl, f1191, f1192, uL, f1193, f1198⟩)
set_option maxRecDepth 65536 in
set_option maxHeartbeats 40000000 in
theorem gsI_30 (l : Launch) (Z : State) (a0 : Array Value) (hw : ∀ d ∈ tables_1, d.before a0 Z = true) (n0 : Nat) (h : Heap) (O : Old Z n0 h) (s_DEF : Addr) (s_EL : Addr) (s_EA : Addr) (s_EM : Addr) (cs : Int32) (mr : Addr) (H : En Z s_DEF s_EL s_EA s_EM cs mr) (a x : Addr) (ga : n0 ≤ a) (ua ued : Addr) (ukE : ClassId) (umc : Int32) (va : Addr) (vmc : Int32) (E0 : Exa Z h a "com/example/plumbline/plumbline/Grades") (F1 : Fld Z h a "com/example/plumbline/plumbline/Grades" "area" "Ljava/util/List;" .null) (F2 : Fld Z h a "com/example/plumbline/plumbline/Grades" "total" "Ljava/util/List;" .null) (Ex : Exa Z h x "com/example/plumbline/plumbline/Band") (uP : AL1 Z n0 h ua ued ukE umc (3 : Int32) [(.ref x), (.ref x), (.ref x), .null, .null, .null, .null, .null, .null, .null]) (vP : AL0 Z n0 h va s_DEF vmc) (nau : a ≠ ua) (nav : a ≠ va) (naue : a ≠ ued) : Con l Z (⟨"com/example/plumbline/plumbline/Grades", "<init>", "(Ljava/util/List;Ljava/util/List;)V"⟩ : MethodName) prog_32_method_1_code 3 none ({ frames := 9, cells := 3, slots := 8, locals := 116 } : Room) #[(.ref a), (.ref ua), (.ref va)] h n0 (fun v h' => v = none ∧ Keep h h' [a] ∧ Exa Z h' a "com/example/plumbline/plumbline/Grades" ∧ ∃ L ar kA, Fld Z h' a "com/example/plumbline/plumbline/Grades" "area" "Ljava/util/List;" (.ref L) ∧ Exa Z h' L "java/util/ImmutableCollections$ListN" ∧ Fld Z h' L "java/util/ImmutableCollections$ListN" "elements" "[Ljava/lang/Object;" (.ref ar) ∧ Arv Z h' ar kA (.object "java/lang/Object") (3 : Int32) [(.ref x), (.ref x), (.ref x)] .null) := by
  refine Con.mk (Ls := #[.val (.ref a), .val (.ref ua), .val (.ref va)]) (plainFor_of_name pn_2) (fun m => by first | (simp [entryFrame, mkF, argsToLocals, Value.category]; done) | rfl) (fun w C => ?_)
  replace C : Cx w l Z "com/example/plumbline/plumbline/Grades" prog_32_method_1_code 3 none "<init>" ({ frames := 9, cells := 3, slots := 8, locals := 116 } : Room) n0 := C
  obtain ⟨S_DEF, E_DEF, V_DEF, S_EL, E_EL, F_EL, V_EA, S_EM, E_EM, S_CS, hcs, MIR⟩ := id H
  obtain ⟨kD, V_DEF⟩ := V_DEF
  obtain ⟨kEA, V_EA⟩ := V_EA
  refine g_aloadN C (pc' := 1) d16_0 rfl rfl rfl ?_
  refine g_initO C (pc' := 4) (wd hw 119 rfl) (wd hw 26 rfl) (wd hw 27 rfl) d16_1 rfl rfl (Nat.le_of_ble_eq_true rfl) (Nat.le_of_ble_eq_true rfl) rfl ?_
  refine g_aloadN C (pc' := 5) d16_4 rfl rfl rfl ?_
  refine g_aloadN C (pc' := 6) d16_5 rfl rfl rfl ?_
  refine g_callS C (pc' := 9) (k' := 3) (n' := 8) (argsL := [(.ref ua)]) (rest := [(.ref a)]) (wd hw 120 rfl) (wd hw 121 rfl) (wd hw 122 rfl) (wd hw 123 rfl) (by decide) d16_6 pd_13 rfl rfl rfl (cpo_3 l Z a0 hw n0 h O s_DEF s_EL s_EA s_EM cs mr H ua ued ukE umc x x x Ex Ex Ex uP) (Nat.le_of_ble_eq_true rfl) (Nat.le_of_ble_eq_true rfl) (Nat.le_of_ble_eq_true rfl) (Nat.le_of_ble_eq_true rfl) rfl rfl rfl (fun v1203 h1202 q1204 => ?_)
  obtain ⟨uL, uar, ukA, rfl, uq1, uq0, uq2, uq3, uq4, uq5⟩ := q1204
  have ne_a_uL : a ≠ uL := Nat.ne_of_lt (Nat.lt_of_lt_of_le E0.lt uq1)
  have ne_x_uL : x ≠ uL := Nat.ne_of_lt (Nat.lt_of_lt_of_le Ex.lt uq1)
  have ge_uL : n0 ≤ uL := Nat.le_trans (O.1 ▸ O.2.1) uq1
  have sz_uL : h.size ≤ uL := Nat.le_trans (Keep.refl h [a]).1 uq1
  have ne_a_uar : a ≠ uar := Nat.ne_of_lt (Nat.lt_of_lt_of_le E0.lt uq0)
  have ne_x_uar : x ≠ uar := Nat.ne_of_lt (Nat.lt_of_lt_of_le Ex.lt uq0)
  have ge_uar : n0 ≤ uar := Nat.le_trans (O.1 ▸ O.2.1) uq0
  have sz_uar : h.size ≤ uar := Nat.le_trans (Keep.refl h [a]).1 uq0
  have f1205 := O.keep uq2 all0
  have f1206 := (Keep.refl h [a]).trans uq2 all0
  have f1207 := E0.keep uq2
  have f1208 := F1.keep uq2 nin0
  have f1209 := F2.keep uq2 nin0
  have f1210 := Ex.keep uq2
  have f1211 := own_AL1_keep uP uq2 nin0 nin0
  have f1212 := own_AL0_keep vP uq2 nin0
  show G w _ h1202 3 8 9 #[.val (.ref a), .val (.ref ua), .val (.ref va)] [(.ref uL), (.ref a)]
  refine g_putF C (pc' := 12) (ty := (.object "java/util/List")) (wd hw 147 rfl) Via.refl d16_9 rfl f1208 f1207 (Or.inr ⟨(wd hw 148 rfl), rfl, rfl⟩) (wd hw 114 rfl) (by decide) rfl rfl ga rfl (fun h1213 W1214 => ?_)
  have f1215 := f1205.wr W1214 ga
  have f1216 := f1206.wr W1214 (Or.inl (List.mem_of_getElem? (i := 0) rfl))
  have f1217 := f1207.wr W1214
  have f1218 := f1208.same W1214
  have f1219 := f1209.other W1214 (Or.inr (slot_ne (Or.inr (wd hw 215 rfl)) (Or.inr (wd hw 148 rfl)) (by decide) (t := (.object "java/util/List")) (t' := (.object "java/util/List")) (by decide) (by decide)))
  have f1220 := f1210.wr W1214
  have f1221 := own_AL1_keep f1211 (Keep.of_wr W1214) (ninS (Ne.symm nau) nin0) (ninS (Ne.symm naue) nin0)
  have f1222 := own_AL0_keep f1212 (Keep.of_wr W1214) (ninS (Ne.symm nav) nin0)
  have f1223 := uq3.wr W1214
  have f1224 := uq4.other W1214 (Or.inl (Ne.symm ne_a_uL))
  have f1225 := uq5.other W1214 (Ne.symm ne_a_uar)
  refine g_aloadN C (pc' := 13) d16_12 rfl rfl rfl ?_
  refine g_aloadN C (pc' := 14) d16_13 rfl rfl rfl ?_
  refine g_callS C (pc' := 17) (k' := 3) (n' := 8) (argsL := [(.ref va)]) (rest := [(.ref a)]) (wd hw 120 rfl) (wd hw 121 rfl) (wd hw 122 rfl) (wd hw 123 rfl) (by decide) d16_14 pd_13 rfl rfl rfl (cpo_0 l Z a0 hw n0 h1213 f1215 s_DEF s_EL s_EA s_EM cs mr H va vmc  f1222) (Nat.le_of_ble_eq_true rfl) (Nat.le_of_ble_eq_true rfl) (Nat.le_of_ble_eq_true rfl) (Nat.le_of_ble_eq_true rfl) rfl rfl rfl (fun v1227 h1226 q1228 => ?_)
  obtain ⟨rfl, eh1226⟩ := q1228
  subst h1226
  show G w _ h1213 3 8 17 #[.val (.ref a), .val (.ref ua), .val (.ref va)] [(.ref s_EL), (.ref a)]
  refine g_putF C (pc' := 20) (ty := (.object "java/util/List")) (wd hw 214 rfl) Via.refl d16_17 rfl f1219 f1217 (Or.inr ⟨(wd hw 215 rfl), rfl, rfl⟩) (wd hw 114 rfl) (by decide) rfl rfl ga rfl (fun h1229 W1230 => ?_)
  have f1231 := f1215.wr W1230 ga
  have f1232 := f1216.wr W1230 (Or.inl (List.mem_of_getElem? (i := 0) rfl))
  have f1233 := f1217.wr W1230
  have f1234 := f1218.other W1230 (Or.inr (slot_ne (Or.inr (wd hw 148 rfl)) (Or.inr (wd hw 215 rfl)) (by decide) (t := (.object "java/util/List")) (t' := (.object "java/util/List")) (by decide) (by decide)))
  have f1235 := f1219.same W1230
  have f1236 := f1220.wr W1230
  have f1237 := own_AL1_keep f1221 (Keep.of_wr W1230) (ninS (Ne.symm nau) nin0) (ninS (Ne.symm naue) nin0)
  have f1238 := own_AL0_keep f1222 (Keep.of_wr W1230) (ninS (Ne.symm nav) nin0)
  have f1239 := f1223.wr W1230
  have f1240 := f1224.other W1230 (Or.inl (Ne.symm ne_a_uL))
  have f1241 := f1225.other W1230 (Ne.symm ne_a_uar)
  exact g_return C d16_20 rfl (Nat.le_of_ble_eq_true rfl) (Nat.le_of_ble_eq_true rfl) (⟨rfl, f1232, f1233, uL, uar, ukA, f1234, f1239, f1240, f1241⟩)
set_option maxRecDepth 65536 in
set_option maxHeartbeats 40000000 in
theorem gsI_31 (l : Launch) (Z : State) (a0 : Array Value) (hw : ∀ d ∈ tables_1, d.before a0 Z = true) (n0 : Nat) (h : Heap) (O : Old Z n0 h) (s_DEF : Addr) (s_EL : Addr) (s_EA : Addr) (s_EM : Addr) (cs : Int32) (mr : Addr) (H : En Z s_DEF s_EL s_EA s_EM cs mr) (a x : Addr) (ga : n0 ≤ a) (ua ued : Addr) (ukE : ClassId) (umc : Int32) (va ved : Addr) (vkE : ClassId) (vmc : Int32) (E0 : Exa Z h a "com/example/plumbline/plumbline/Grades") (F1 : Fld Z h a "com/example/plumbline/plumbline/Grades" "area" "Ljava/util/List;" .null) (F2 : Fld Z h a "com/example/plumbline/plumbline/Grades" "total" "Ljava/util/List;" .null) (Ex : Exa Z h x "com/example/plumbline/plumbline/Band") (uP : AL1 Z n0 h ua ued ukE umc (3 : Int32) [(.ref x), (.ref x), (.ref x), .null, .null, .null, .null, .null, .null, .null]) (vP : AL1 Z n0 h va ved vkE vmc (1 : Int32) [(.ref x), .null, .null, .null, .null, .null, .null, .null, .null, .null]) (nau : a ≠ ua) (nav : a ≠ va) (naue : a ≠ ued) (nave : a ≠ ved) : Con l Z (⟨"com/example/plumbline/plumbline/Grades", "<init>", "(Ljava/util/List;Ljava/util/List;)V"⟩ : MethodName) prog_32_method_1_code 3 none ({ frames := 9, cells := 5, slots := 11, locals := 116 } : Room) #[(.ref a), (.ref ua), (.ref va)] h n0 (fun v h' => v = none ∧ Keep h h' [a] ∧ Exa Z h' a "com/example/plumbline/plumbline/Grades" ∧ ∃ L ar kA, Fld Z h' a "com/example/plumbline/plumbline/Grades" "area" "Ljava/util/List;" (.ref L) ∧ Exa Z h' L "java/util/ImmutableCollections$ListN" ∧ Fld Z h' L "java/util/ImmutableCollections$ListN" "elements" "[Ljava/lang/Object;" (.ref ar) ∧ Arv Z h' ar kA (.object "java/lang/Object") (3 : Int32) [(.ref x), (.ref x), (.ref x)] .null) := by
  refine Con.mk (Ls := #[.val (.ref a), .val (.ref ua), .val (.ref va)]) (plainFor_of_name pn_2) (fun m => by first | (simp [entryFrame, mkF, argsToLocals, Value.category]; done) | rfl) (fun w C => ?_)
  replace C : Cx w l Z "com/example/plumbline/plumbline/Grades" prog_32_method_1_code 3 none "<init>" ({ frames := 9, cells := 5, slots := 11, locals := 116 } : Room) n0 := C
  obtain ⟨S_DEF, E_DEF, V_DEF, S_EL, E_EL, F_EL, V_EA, S_EM, E_EM, S_CS, hcs, MIR⟩ := id H
  obtain ⟨kD, V_DEF⟩ := V_DEF
  obtain ⟨kEA, V_EA⟩ := V_EA
  refine g_aloadN C (pc' := 1) d16_0 rfl rfl rfl ?_
  refine g_initO C (pc' := 4) (wd hw 119 rfl) (wd hw 26 rfl) (wd hw 27 rfl) d16_1 rfl rfl (Nat.le_of_ble_eq_true rfl) (Nat.le_of_ble_eq_true rfl) rfl ?_
  refine g_aloadN C (pc' := 5) d16_4 rfl rfl rfl ?_
  refine g_aloadN C (pc' := 6) d16_5 rfl rfl rfl ?_
  refine g_callS C (pc' := 9) (k' := 3) (n' := 8) (argsL := [(.ref ua)]) (rest := [(.ref a)]) (wd hw 120 rfl) (wd hw 121 rfl) (wd hw 122 rfl) (wd hw 123 rfl) (by decide) d16_6 pd_13 rfl rfl rfl (cpo_3 l Z a0 hw n0 h O s_DEF s_EL s_EA s_EM cs mr H ua ued ukE umc x x x Ex Ex Ex uP) (Nat.le_of_ble_eq_true rfl) (Nat.le_of_ble_eq_true rfl) (Nat.le_of_ble_eq_true rfl) (Nat.le_of_ble_eq_true rfl) rfl rfl rfl (fun v1243 h1242 q1244 => ?_)
  obtain ⟨uL, uar, ukA, rfl, uq1, uq0, uq2, uq3, uq4, uq5⟩ := q1244
  have ne_a_uL : a ≠ uL := Nat.ne_of_lt (Nat.lt_of_lt_of_le E0.lt uq1)
  have ne_x_uL : x ≠ uL := Nat.ne_of_lt (Nat.lt_of_lt_of_le Ex.lt uq1)
  have ge_uL : n0 ≤ uL := Nat.le_trans (O.1 ▸ O.2.1) uq1
  have sz_uL : h.size ≤ uL := Nat.le_trans (Keep.refl h [a]).1 uq1
  have ne_a_uar : a ≠ uar := Nat.ne_of_lt (Nat.lt_of_lt_of_le E0.lt uq0)
  have ne_x_uar : x ≠ uar := Nat.ne_of_lt (Nat.lt_of_lt_of_le Ex.lt uq0)
  have ge_uar : n0 ≤ uar := Nat.le_trans (O.1 ▸ O.2.1) uq0
  have sz_uar : h.size ≤ uar := Nat.le_trans (Keep.refl h [a]).1 uq0
  have f1245 := O.keep uq2 all0
  have f1246 := (Keep.refl h [a]).trans uq2 all0
  have f1247 := E0.keep uq2
  have f1248 := F1.keep uq2 nin0
  have f1249 := F2.keep uq2 nin0
  have f1250 := Ex.keep uq2
  have f1251 := own_AL1_keep uP uq2 nin0 nin0
  have f1252 := own_AL1_keep vP uq2 nin0 nin0
  show G w _ h1242 3 8 9 #[.val (.ref a), .val (.ref ua), .val (.ref va)] [(.ref uL), (.ref a)]
  refine g_putF C (pc' := 12) (ty := (.object "java/util/List")) (wd hw 147 rfl) Via.refl d16_9 rfl f1248 f1247 (Or.inr ⟨(wd hw 148 rfl), rfl, rfl⟩) (wd hw 114 rfl) (by decide) rfl rfl ga rfl (fun h1253 W1254 => ?_)
  have f1255 := f1245.wr W1254 ga
  have f1256 := f1246.wr W1254 (Or.inl (List.mem_of_getElem? (i := 0) rfl))
  have f1257 := f1247.wr W1254
  have f1258 := f1248.same W1254
  have f1259 := f1249.other W1254 (Or.inr (slot_ne (Or.inr (wd hw 215 rfl)) (Or.inr (wd hw 148 rfl)) (by decide) (t := (.object "java/util/List")) (t' := (.object "java/util/List")) (by decide) (by decide)))
  have f1260 := f1250.wr W1254
  have f1261 := own_AL1_keep f1251 (Keep.of_wr W1254) (ninS (Ne.symm nau) nin0) (ninS (Ne.symm naue) nin0)
  have f1262 := own_AL1_keep f1252 (Keep.of_wr W1254) (ninS (Ne.symm nav) nin0) (ninS (Ne.symm nave) nin0)
  have f1263 := uq3.wr W1254
  have f1264 := uq4.other W1254 (Or.inl (Ne.symm ne_a_uL))
  have f1265 := uq5.other W1254 (Ne.symm ne_a_uar)
  refine g_aloadN C (pc' := 13) d16_12 rfl rfl rfl ?_
  refine g_aloadN C (pc' := 14) d16_13 rfl rfl rfl ?_
  refine g_callS C (pc' := 17) (k' := 5) (n' := 11) (argsL := [(.ref va)]) (rest := [(.ref a)]) (wd hw 120 rfl) (wd hw 121 rfl) (wd hw 122 rfl) (wd hw 123 rfl) (by decide) d16_14 pd_13 rfl rfl rfl (cpo_1 l Z a0 hw n0 h1253 f1255 s_DEF s_EL s_EA s_EM cs mr H va ved vkE vmc x f1260 f1262) (Nat.le_of_ble_eq_true rfl) (Nat.le_of_ble_eq_true rfl) (Nat.le_of_ble_eq_true rfl) (Nat.le_of_ble_eq_true rfl) rfl rfl rfl (fun v1267 h1266 q1268 => ?_)
  obtain ⟨vL, rfl, vq1, vq2, vq3⟩ := q1268
  have ne_a_vL : a ≠ vL := Nat.ne_of_lt (Nat.lt_of_lt_of_le f1257.lt vq1)
  have ne_x_vL : x ≠ vL := Nat.ne_of_lt (Nat.lt_of_lt_of_le f1260.lt vq1)
  have ne_uL_vL : uL ≠ vL := Nat.ne_of_lt (Nat.lt_of_lt_of_le f1263.lt vq1)
  have ne_uar_vL : uar ≠ vL := Nat.ne_of_lt (Nat.lt_of_lt_of_le f1265.lt vq1)
  have ge_vL : n0 ≤ vL := Nat.le_trans (f1255.1 ▸ f1255.2.1) vq1
  have sz_vL : h.size ≤ vL := Nat.le_trans f1256.1 vq1
  have f1269 := f1255.keep vq2 all0
  have f1270 := f1256.trans vq2 all0
  have f1271 := f1257.keep vq2
  have f1272 := f1258.keep vq2 nin0
  have f1273 := f1259.keep vq2 nin0
  have f1274 := f1260.keep vq2
  have f1275 := own_AL1_keep f1261 vq2 nin0 nin0
  have f1276 := own_AL1_keep f1262 vq2 nin0 nin0
  have f1277 := f1263.keep vq2
  have f1278 := f1264.keep vq2 nin0
  have f1279 := f1265.keep vq2 nin0
  show G w _ h1266 5 11 17 #[.val (.ref a), .val (.ref ua), .val (.ref va)] [(.ref vL), (.ref a)]
  refine g_putF C (pc' := 20) (ty := (.object "java/util/List")) (wd hw 214 rfl) Via.refl d16_17 rfl f1273 f1271 (Or.inr ⟨(wd hw 215 rfl), rfl, rfl⟩) (wd hw 114 rfl) (by decide) rfl rfl ga rfl (fun h1280 W1281 => ?_)
  have f1282 := f1269.wr W1281 ga
  have f1283 := f1270.wr W1281 (Or.inl (List.mem_of_getElem? (i := 0) rfl))
  have f1284 := f1271.wr W1281
  have f1285 := f1272.other W1281 (Or.inr (slot_ne (Or.inr (wd hw 148 rfl)) (Or.inr (wd hw 215 rfl)) (by decide) (t := (.object "java/util/List")) (t' := (.object "java/util/List")) (by decide) (by decide)))
  have f1286 := f1273.same W1281
  have f1287 := f1274.wr W1281
  have f1288 := own_AL1_keep f1275 (Keep.of_wr W1281) (ninS (Ne.symm nau) nin0) (ninS (Ne.symm naue) nin0)
  have f1289 := own_AL1_keep f1276 (Keep.of_wr W1281) (ninS (Ne.symm nav) nin0) (ninS (Ne.symm nave) nin0)
  have f1290 := f1277.wr W1281
  have f1291 := f1278.other W1281 (Or.inl (Ne.symm ne_a_uL))
  have f1292 := f1279.other W1281 (Ne.symm ne_a_uar)
  have f1293 := vq3.wr W1281
  exact g_return C d16_20 rfl (Nat.le_of_ble_eq_true rfl) (Nat.le_of_ble_eq_true rfl) (⟨rfl, f1283, f1284, uL, uar, ukA, f1285, f1290, f1291, f1292⟩)
set_option maxRecDepth 65536 in
set_option maxHeartbeats 40000000 in
theorem gsI_32 (l : Launch) (Z : State) (a0 : Array Value) (hw : ∀ d ∈ tables_1, d.before a0 Z = true) (n0 : Nat) (h : Heap) (O : Old Z n0 h) (s_DEF : Addr) (s_EL : Addr) (s_EA : Addr) (s_EM : Addr) (cs : Int32) (mr : Addr) (H : En Z s_DEF s_EL s_EA s_EM cs mr) (a x : Addr) (ga : n0 ≤ a) (ua ued : Addr) (ukE : ClassId) (umc : Int32) (va ved : Addr) (vkE : ClassId) (vmc : Int32) (E0 : Exa Z h a "com/example/plumbline/plumbline/Grades") (F1 : Fld Z h a "com/example/plumbline/plumbline/Grades" "area" "Ljava/util/List;" .null) (F2 : Fld Z h a "com/example/plumbline/plumbline/Grades" "total" "Ljava/util/List;" .null) (Ex : Exa Z h x "com/example/plumbline/plumbline/Band") (uP : AL1 Z n0 h ua ued ukE umc (3 : Int32) [(.ref x), (.ref x), (.ref x), .null, .null, .null, .null, .null, .null, .null]) (vP : AL1 Z n0 h va ved vkE vmc (2 : Int32) [(.ref x), (.ref x), .null, .null, .null, .null, .null, .null, .null, .null]) (nau : a ≠ ua) (nav : a ≠ va) (naue : a ≠ ued) (nave : a ≠ ved) : Con l Z (⟨"com/example/plumbline/plumbline/Grades", "<init>", "(Ljava/util/List;Ljava/util/List;)V"⟩ : MethodName) prog_32_method_1_code 3 none ({ frames := 9, cells := 5, slots := 12, locals := 116 } : Room) #[(.ref a), (.ref ua), (.ref va)] h n0 (fun v h' => v = none ∧ Keep h h' [a] ∧ Exa Z h' a "com/example/plumbline/plumbline/Grades" ∧ ∃ L ar kA, Fld Z h' a "com/example/plumbline/plumbline/Grades" "area" "Ljava/util/List;" (.ref L) ∧ Exa Z h' L "java/util/ImmutableCollections$ListN" ∧ Fld Z h' L "java/util/ImmutableCollections$ListN" "elements" "[Ljava/lang/Object;" (.ref ar) ∧ Arv Z h' ar kA (.object "java/lang/Object") (3 : Int32) [(.ref x), (.ref x), (.ref x)] .null) := by
  refine Con.mk (Ls := #[.val (.ref a), .val (.ref ua), .val (.ref va)]) (plainFor_of_name pn_2) (fun m => by first | (simp [entryFrame, mkF, argsToLocals, Value.category]; done) | rfl) (fun w C => ?_)
  replace C : Cx w l Z "com/example/plumbline/plumbline/Grades" prog_32_method_1_code 3 none "<init>" ({ frames := 9, cells := 5, slots := 12, locals := 116 } : Room) n0 := C
  obtain ⟨S_DEF, E_DEF, V_DEF, S_EL, E_EL, F_EL, V_EA, S_EM, E_EM, S_CS, hcs, MIR⟩ := id H
  obtain ⟨kD, V_DEF⟩ := V_DEF
  obtain ⟨kEA, V_EA⟩ := V_EA
  refine g_aloadN C (pc' := 1) d16_0 rfl rfl rfl ?_
  refine g_initO C (pc' := 4) (wd hw 119 rfl) (wd hw 26 rfl) (wd hw 27 rfl) d16_1 rfl rfl (Nat.le_of_ble_eq_true rfl) (Nat.le_of_ble_eq_true rfl) rfl ?_
  refine g_aloadN C (pc' := 5) d16_4 rfl rfl rfl ?_
  refine g_aloadN C (pc' := 6) d16_5 rfl rfl rfl ?_
  refine g_callS C (pc' := 9) (k' := 3) (n' := 8) (argsL := [(.ref ua)]) (rest := [(.ref a)]) (wd hw 120 rfl) (wd hw 121 rfl) (wd hw 122 rfl) (wd hw 123 rfl) (by decide) d16_6 pd_13 rfl rfl rfl (cpo_3 l Z a0 hw n0 h O s_DEF s_EL s_EA s_EM cs mr H ua ued ukE umc x x x Ex Ex Ex uP) (Nat.le_of_ble_eq_true rfl) (Nat.le_of_ble_eq_true rfl) (Nat.le_of_ble_eq_true rfl) (Nat.le_of_ble_eq_true rfl) rfl rfl rfl (fun v1295 h1294 q1296 => ?_)
  obtain ⟨uL, uar, ukA, rfl, uq1, uq0, uq2, uq3, uq4, uq5⟩ := q1296
  have ne_a_uL : a ≠ uL := Nat.ne_of_lt (Nat.lt_of_lt_of_le E0.lt uq1)
  have ne_x_uL : x ≠ uL := Nat.ne_of_lt (Nat.lt_of_lt_of_le Ex.lt uq1)
  have ge_uL : n0 ≤ uL := Nat.le_trans (O.1 ▸ O.2.1) uq1
  have sz_uL : h.size ≤ uL := Nat.le_trans (Keep.refl h [a]).1 uq1
  have ne_a_uar : a ≠ uar := Nat.ne_of_lt (Nat.lt_of_lt_of_le E0.lt uq0)
  have ne_x_uar : x ≠ uar := Nat.ne_of_lt (Nat.lt_of_lt_of_le Ex.lt uq0)
  have ge_uar : n0 ≤ uar := Nat.le_trans (O.1 ▸ O.2.1) uq0
  have sz_uar : h.size ≤ uar := Nat.le_trans (Keep.refl h [a]).1 uq0
  have f1297 := O.keep uq2 all0
  have f1298 := (Keep.refl h [a]).trans uq2 all0
  have f1299 := E0.keep uq2
  have f1300 := F1.keep uq2 nin0
  have f1301 := F2.keep uq2 nin0
  have f1302 := Ex.keep uq2
  have f1303 := own_AL1_keep uP uq2 nin0 nin0
  have f1304 := own_AL1_keep vP uq2 nin0 nin0
  show G w _ h1294 3 8 9 #[.val (.ref a), .val (.ref ua), .val (.ref va)] [(.ref uL), (.ref a)]
  refine g_putF C (pc' := 12) (ty := (.object "java/util/List")) (wd hw 147 rfl) Via.refl d16_9 rfl f1300 f1299 (Or.inr ⟨(wd hw 148 rfl), rfl, rfl⟩) (wd hw 114 rfl) (by decide) rfl rfl ga rfl (fun h1305 W1306 => ?_)
  have f1307 := f1297.wr W1306 ga
  have f1308 := f1298.wr W1306 (Or.inl (List.mem_of_getElem? (i := 0) rfl))
  have f1309 := f1299.wr W1306
  have f1310 := f1300.same W1306
  have f1311 := f1301.other W1306 (Or.inr (slot_ne (Or.inr (wd hw 215 rfl)) (Or.inr (wd hw 148 rfl)) (by decide) (t := (.object "java/util/List")) (t' := (.object "java/util/List")) (by decide) (by decide)))
  have f1312 := f1302.wr W1306
  have f1313 := own_AL1_keep f1303 (Keep.of_wr W1306) (ninS (Ne.symm nau) nin0) (ninS (Ne.symm naue) nin0)
  have f1314 := own_AL1_keep f1304 (Keep.of_wr W1306) (ninS (Ne.symm nav) nin0) (ninS (Ne.symm nave) nin0)
  have f1315 := uq3.wr W1306
  have f1316 := uq4.other W1306 (Or.inl (Ne.symm ne_a_uL))
  have f1317 := uq5.other W1306 (Ne.symm ne_a_uar)
  refine g_aloadN C (pc' := 13) d16_12 rfl rfl rfl ?_
  refine g_aloadN C (pc' := 14) d16_13 rfl rfl rfl ?_
  refine g_callS C (pc' := 17) (k' := 5) (n' := 12) (argsL := [(.ref va)]) (rest := [(.ref a)]) (wd hw 120 rfl) (wd hw 121 rfl) (wd hw 122 rfl) (wd hw 123 rfl) (by decide) d16_14 pd_13 rfl rfl rfl (cpo_2 l Z a0 hw n0 h1305 f1307 s_DEF s_EL s_EA s_EM cs mr H va ved vkE vmc x x f1312 f1312 f1314) (Nat.le_of_ble_eq_true rfl) (Nat.le_of_ble_eq_true rfl) (Nat.le_of_ble_eq_true rfl) (Nat.le_of_ble_eq_true rfl) rfl rfl rfl (fun v1319 h1318 q1320 => ?_)
  obtain ⟨vL, rfl, vq1, vq2, vq3⟩ := q1320
  have ne_a_vL : a ≠ vL := Nat.ne_of_lt (Nat.lt_of_lt_of_le f1309.lt vq1)
  have ne_x_vL : x ≠ vL := Nat.ne_of_lt (Nat.lt_of_lt_of_le f1312.lt vq1)
  have ne_uL_vL : uL ≠ vL := Nat.ne_of_lt (Nat.lt_of_lt_of_le f1315.lt vq1)
  have ne_uar_vL : uar ≠ vL := Nat.ne_of_lt (Nat.lt_of_lt_of_le f1317.lt vq1)
  have ge_vL : n0 ≤ vL := Nat.le_trans (f1307.1 ▸ f1307.2.1) vq1
  have sz_vL : h.size ≤ vL := Nat.le_trans f1308.1 vq1
  have f1321 := f1307.keep vq2 all0
  have f1322 := f1308.trans vq2 all0
  have f1323 := f1309.keep vq2
  have f1324 := f1310.keep vq2 nin0
  have f1325 := f1311.keep vq2 nin0
  have f1326 := f1312.keep vq2
  have f1327 := own_AL1_keep f1313 vq2 nin0 nin0
  have f1328 := own_AL1_keep f1314 vq2 nin0 nin0
  have f1329 := f1315.keep vq2
  have f1330 := f1316.keep vq2 nin0
  have f1331 := f1317.keep vq2 nin0
  show G w _ h1318 5 12 17 #[.val (.ref a), .val (.ref ua), .val (.ref va)] [(.ref vL), (.ref a)]
  refine g_putF C (pc' := 20) (ty := (.object "java/util/List")) (wd hw 214 rfl) Via.refl d16_17 rfl f1325 f1323 (Or.inr ⟨(wd hw 215 rfl), rfl, rfl⟩) (wd hw 114 rfl) (by decide) rfl rfl ga rfl (fun h1332 W1333 => ?_)
  have f1334 := f1321.wr W1333 ga
  have f1335 := f1322.wr W1333 (Or.inl (List.mem_of_getElem? (i := 0) rfl))
  have f1336 := f1323.wr W1333
  have f1337 := f1324.other W1333 (Or.inr (slot_ne (Or.inr (wd hw 148 rfl)) (Or.inr (wd hw 215 rfl)) (by decide) (t := (.object "java/util/List")) (t' := (.object "java/util/List")) (by decide) (by decide)))
  have f1338 := f1325.same W1333
  have f1339 := f1326.wr W1333
  have f1340 := own_AL1_keep f1327 (Keep.of_wr W1333) (ninS (Ne.symm nau) nin0) (ninS (Ne.symm naue) nin0)
  have f1341 := own_AL1_keep f1328 (Keep.of_wr W1333) (ninS (Ne.symm nav) nin0) (ninS (Ne.symm nave) nin0)
  have f1342 := f1329.wr W1333
  have f1343 := f1330.other W1333 (Or.inl (Ne.symm ne_a_uL))
  have f1344 := f1331.other W1333 (Ne.symm ne_a_uar)
  have f1345 := vq3.wr W1333
  exact g_return C d16_20 rfl (Nat.le_of_ble_eq_true rfl) (Nat.le_of_ble_eq_true rfl) (⟨rfl, f1335, f1336, uL, uar, ukA, f1337, f1342, f1343, f1344⟩)
set_option maxRecDepth 65536 in
set_option maxHeartbeats 40000000 in
theorem gsI_33 (l : Launch) (Z : State) (a0 : Array Value) (hw : ∀ d ∈ tables_1, d.before a0 Z = true) (n0 : Nat) (h : Heap) (O : Old Z n0 h) (s_DEF : Addr) (s_EL : Addr) (s_EA : Addr) (s_EM : Addr) (cs : Int32) (mr : Addr) (H : En Z s_DEF s_EL s_EA s_EM cs mr) (a x : Addr) (ga : n0 ≤ a) (ua ued : Addr) (ukE : ClassId) (umc : Int32) (va ved : Addr) (vkE : ClassId) (vmc : Int32) (E0 : Exa Z h a "com/example/plumbline/plumbline/Grades") (F1 : Fld Z h a "com/example/plumbline/plumbline/Grades" "area" "Ljava/util/List;" .null) (F2 : Fld Z h a "com/example/plumbline/plumbline/Grades" "total" "Ljava/util/List;" .null) (Ex : Exa Z h x "com/example/plumbline/plumbline/Band") (uP : AL1 Z n0 h ua ued ukE umc (3 : Int32) [(.ref x), (.ref x), (.ref x), .null, .null, .null, .null, .null, .null, .null]) (vP : AL1 Z n0 h va ved vkE vmc (3 : Int32) [(.ref x), (.ref x), (.ref x), .null, .null, .null, .null, .null, .null, .null]) (nau : a ≠ ua) (nav : a ≠ va) (naue : a ≠ ued) (nave : a ≠ ved) : Con l Z (⟨"com/example/plumbline/plumbline/Grades", "<init>", "(Ljava/util/List;Ljava/util/List;)V"⟩ : MethodName) prog_32_method_1_code 3 none ({ frames := 9, cells := 6, slots := 16, locals := 116 } : Room) #[(.ref a), (.ref ua), (.ref va)] h n0 (fun v h' => v = none ∧ Keep h h' [a] ∧ Exa Z h' a "com/example/plumbline/plumbline/Grades" ∧ ∃ L ar kA, Fld Z h' a "com/example/plumbline/plumbline/Grades" "area" "Ljava/util/List;" (.ref L) ∧ Exa Z h' L "java/util/ImmutableCollections$ListN" ∧ Fld Z h' L "java/util/ImmutableCollections$ListN" "elements" "[Ljava/lang/Object;" (.ref ar) ∧ Arv Z h' ar kA (.object "java/lang/Object") (3 : Int32) [(.ref x), (.ref x), (.ref x)] .null) := by
  refine Con.mk (Ls := #[.val (.ref a), .val (.ref ua), .val (.ref va)]) (plainFor_of_name pn_2) (fun m => by first | (simp [entryFrame, mkF, argsToLocals, Value.category]; done) | rfl) (fun w C => ?_)
  replace C : Cx w l Z "com/example/plumbline/plumbline/Grades" prog_32_method_1_code 3 none "<init>" ({ frames := 9, cells := 6, slots := 16, locals := 116 } : Room) n0 := C
  obtain ⟨S_DEF, E_DEF, V_DEF, S_EL, E_EL, F_EL, V_EA, S_EM, E_EM, S_CS, hcs, MIR⟩ := id H
  obtain ⟨kD, V_DEF⟩ := V_DEF
  obtain ⟨kEA, V_EA⟩ := V_EA
  refine g_aloadN C (pc' := 1) d16_0 rfl rfl rfl ?_
  refine g_initO C (pc' := 4) (wd hw 119 rfl) (wd hw 26 rfl) (wd hw 27 rfl) d16_1 rfl rfl (Nat.le_of_ble_eq_true rfl) (Nat.le_of_ble_eq_true rfl) rfl ?_
  refine g_aloadN C (pc' := 5) d16_4 rfl rfl rfl ?_
  refine g_aloadN C (pc' := 6) d16_5 rfl rfl rfl ?_
  refine g_callS C (pc' := 9) (k' := 3) (n' := 8) (argsL := [(.ref ua)]) (rest := [(.ref a)]) (wd hw 120 rfl) (wd hw 121 rfl) (wd hw 122 rfl) (wd hw 123 rfl) (by decide) d16_6 pd_13 rfl rfl rfl (cpo_3 l Z a0 hw n0 h O s_DEF s_EL s_EA s_EM cs mr H ua ued ukE umc x x x Ex Ex Ex uP) (Nat.le_of_ble_eq_true rfl) (Nat.le_of_ble_eq_true rfl) (Nat.le_of_ble_eq_true rfl) (Nat.le_of_ble_eq_true rfl) rfl rfl rfl (fun v1347 h1346 q1348 => ?_)
  obtain ⟨uL, uar, ukA, rfl, uq1, uq0, uq2, uq3, uq4, uq5⟩ := q1348
  have ne_a_uL : a ≠ uL := Nat.ne_of_lt (Nat.lt_of_lt_of_le E0.lt uq1)
  have ne_x_uL : x ≠ uL := Nat.ne_of_lt (Nat.lt_of_lt_of_le Ex.lt uq1)
  have ge_uL : n0 ≤ uL := Nat.le_trans (O.1 ▸ O.2.1) uq1
  have sz_uL : h.size ≤ uL := Nat.le_trans (Keep.refl h [a]).1 uq1
  have ne_a_uar : a ≠ uar := Nat.ne_of_lt (Nat.lt_of_lt_of_le E0.lt uq0)
  have ne_x_uar : x ≠ uar := Nat.ne_of_lt (Nat.lt_of_lt_of_le Ex.lt uq0)
  have ge_uar : n0 ≤ uar := Nat.le_trans (O.1 ▸ O.2.1) uq0
  have sz_uar : h.size ≤ uar := Nat.le_trans (Keep.refl h [a]).1 uq0
  have f1349 := O.keep uq2 all0
  have f1350 := (Keep.refl h [a]).trans uq2 all0
  have f1351 := E0.keep uq2
  have f1352 := F1.keep uq2 nin0
  have f1353 := F2.keep uq2 nin0
  have f1354 := Ex.keep uq2
  have f1355 := own_AL1_keep uP uq2 nin0 nin0
  have f1356 := own_AL1_keep vP uq2 nin0 nin0
  show G w _ h1346 3 8 9 #[.val (.ref a), .val (.ref ua), .val (.ref va)] [(.ref uL), (.ref a)]
  refine g_putF C (pc' := 12) (ty := (.object "java/util/List")) (wd hw 147 rfl) Via.refl d16_9 rfl f1352 f1351 (Or.inr ⟨(wd hw 148 rfl), rfl, rfl⟩) (wd hw 114 rfl) (by decide) rfl rfl ga rfl (fun h1357 W1358 => ?_)
  have f1359 := f1349.wr W1358 ga
  have f1360 := f1350.wr W1358 (Or.inl (List.mem_of_getElem? (i := 0) rfl))
  have f1361 := f1351.wr W1358
  have f1362 := f1352.same W1358
  have f1363 := f1353.other W1358 (Or.inr (slot_ne (Or.inr (wd hw 215 rfl)) (Or.inr (wd hw 148 rfl)) (by decide) (t := (.object "java/util/List")) (t' := (.object "java/util/List")) (by decide) (by decide)))
  have f1364 := f1354.wr W1358
  have f1365 := own_AL1_keep f1355 (Keep.of_wr W1358) (ninS (Ne.symm nau) nin0) (ninS (Ne.symm naue) nin0)
  have f1366 := own_AL1_keep f1356 (Keep.of_wr W1358) (ninS (Ne.symm nav) nin0) (ninS (Ne.symm nave) nin0)
  have f1367 := uq3.wr W1358
  have f1368 := uq4.other W1358 (Or.inl (Ne.symm ne_a_uL))
  have f1369 := uq5.other W1358 (Ne.symm ne_a_uar)
  refine g_aloadN C (pc' := 13) d16_12 rfl rfl rfl ?_
  refine g_aloadN C (pc' := 14) d16_13 rfl rfl rfl ?_
  refine g_callS C (pc' := 17) (k' := 6) (n' := 16) (argsL := [(.ref va)]) (rest := [(.ref a)]) (wd hw 120 rfl) (wd hw 121 rfl) (wd hw 122 rfl) (wd hw 123 rfl) (by decide) d16_14 pd_13 rfl rfl rfl (cpo_3 l Z a0 hw n0 h1357 f1359 s_DEF s_EL s_EA s_EM cs mr H va ved vkE vmc x x x f1364 f1364 f1364 f1366) (Nat.le_of_ble_eq_true rfl) (Nat.le_of_ble_eq_true rfl) (Nat.le_of_ble_eq_true rfl) (Nat.le_of_ble_eq_true rfl) rfl rfl rfl (fun v1371 h1370 q1372 => ?_)
  obtain ⟨vL, var, vkA, rfl, vq1, vq0, vq2, vq3, vq4, vq5⟩ := q1372
  have ne_a_vL : a ≠ vL := Nat.ne_of_lt (Nat.lt_of_lt_of_le f1361.lt vq1)
  have ne_x_vL : x ≠ vL := Nat.ne_of_lt (Nat.lt_of_lt_of_le f1364.lt vq1)
  have ne_uL_vL : uL ≠ vL := Nat.ne_of_lt (Nat.lt_of_lt_of_le f1367.lt vq1)
  have ne_uar_vL : uar ≠ vL := Nat.ne_of_lt (Nat.lt_of_lt_of_le f1369.lt vq1)
  have ge_vL : n0 ≤ vL := Nat.le_trans (f1359.1 ▸ f1359.2.1) vq1
  have sz_vL : h.size ≤ vL := Nat.le_trans f1360.1 vq1
  have ne_a_var : a ≠ var := Nat.ne_of_lt (Nat.lt_of_lt_of_le f1361.lt vq0)
  have ne_x_var : x ≠ var := Nat.ne_of_lt (Nat.lt_of_lt_of_le f1364.lt vq0)
  have ne_uL_var : uL ≠ var := Nat.ne_of_lt (Nat.lt_of_lt_of_le f1367.lt vq0)
  have ne_uar_var : uar ≠ var := Nat.ne_of_lt (Nat.lt_of_lt_of_le f1369.lt vq0)
  have ge_var : n0 ≤ var := Nat.le_trans (f1359.1 ▸ f1359.2.1) vq0
  have sz_var : h.size ≤ var := Nat.le_trans f1360.1 vq0
  have f1373 := f1359.keep vq2 all0
  have f1374 := f1360.trans vq2 all0
  have f1375 := f1361.keep vq2
  have f1376 := f1362.keep vq2 nin0
  have f1377 := f1363.keep vq2 nin0
  have f1378 := f1364.keep vq2
  have f1379 := own_AL1_keep f1365 vq2 nin0 nin0
  have f1380 := own_AL1_keep f1366 vq2 nin0 nin0
  have f1381 := f1367.keep vq2
  have f1382 := f1368.keep vq2 nin0
  have f1383 := f1369.keep vq2 nin0
  show G w _ h1370 6 16 17 #[.val (.ref a), .val (.ref ua), .val (.ref va)] [(.ref vL), (.ref a)]
  refine g_putF C (pc' := 20) (ty := (.object "java/util/List")) (wd hw 214 rfl) Via.refl d16_17 rfl f1377 f1375 (Or.inr ⟨(wd hw 215 rfl), rfl, rfl⟩) (wd hw 114 rfl) (by decide) rfl rfl ga rfl (fun h1384 W1385 => ?_)
  have f1386 := f1373.wr W1385 ga
  have f1387 := f1374.wr W1385 (Or.inl (List.mem_of_getElem? (i := 0) rfl))
  have f1388 := f1375.wr W1385
  have f1389 := f1376.other W1385 (Or.inr (slot_ne (Or.inr (wd hw 148 rfl)) (Or.inr (wd hw 215 rfl)) (by decide) (t := (.object "java/util/List")) (t' := (.object "java/util/List")) (by decide) (by decide)))
  have f1390 := f1377.same W1385
  have f1391 := f1378.wr W1385
  have f1392 := own_AL1_keep f1379 (Keep.of_wr W1385) (ninS (Ne.symm nau) nin0) (ninS (Ne.symm naue) nin0)
  have f1393 := own_AL1_keep f1380 (Keep.of_wr W1385) (ninS (Ne.symm nav) nin0) (ninS (Ne.symm nave) nin0)
  have f1394 := f1381.wr W1385
  have f1395 := f1382.other W1385 (Or.inl (Ne.symm ne_a_uL))
  have f1396 := f1383.other W1385 (Ne.symm ne_a_uar)
  have f1397 := vq3.wr W1385
  have f1398 := vq4.other W1385 (Or.inl (Ne.symm ne_a_vL))
  have f1399 := vq5.other W1385 (Ne.symm ne_a_var)
  exact g_return C d16_20 rfl (Nat.le_of_ble_eq_true rfl) (Nat.le_of_ble_eq_true rfl) (⟨rfl, f1387, f1388, uL, uar, ukA, f1389, f1394, f1395, f1396⟩)
theorem d31_0 : decode prog_32_method_2_code 0 = .ok (.aload_n 0, 1) := by decide +kernel
theorem d31_1 : decode prog_32_method_2_code 1 = .ok (.getfield 13, 3) := by decide +kernel
theorem d31_4 : decode prog_32_method_2_code 4 = .ok (.invokeinterface 22 1, 5) := by decide +kernel
theorem d31_9 : decode prog_32_method_2_code 9 = .ok (.ifCond .ne 7, 3) := by decide +kernel
theorem d31_16 : decode prog_32_method_2_code 16 = .ok (.iconst 0, 1) := by decide +kernel
theorem d31_17 : decode prog_32_method_2_code 17 = .ok (.ireturn, 1) := by decide +kernel
set_option maxRecDepth 65536 in
set_option maxHeartbeats 40000000 in
theorem gr_0 (l : Launch) (Z : State) (a0 : Array Value) (hw : ∀ d ∈ tables_1, d.before a0 Z = true) (n0 : Nat) (h : Heap) (O : Old Z n0 h) (s_DEF : Addr) (s_EL : Addr) (s_EA : Addr) (s_EM : Addr) (cs : Int32) (mr : Addr) (H : En Z s_DEF s_EL s_EA s_EM cs mr) (a : Addr) (E0 : Exa Z h a "com/example/plumbline/plumbline/Grades") (F0 : Fld Z h a "com/example/plumbline/plumbline/Grades" "area" "Ljava/util/List;" (.ref s_EL)) : Con l Z (⟨"com/example/plumbline/plumbline/Grades", "gradesAreas", "()Z"⟩ : MethodName) prog_32_method_2_code 1 (some .boolean) ({ frames := 1, cells := 0, slots := 0, locals := 12 } : Room) #[(.ref a)] h n0 (fun v h' => v = some (.int (0 : Int32)) ∧ h' = h) := by
  refine Con.mk (Ls := #[.val (.ref a)]) (plainFor_of_name pn_2) (fun m => by first | (simp [entryFrame, mkF, argsToLocals, Value.category]; done) | rfl) (fun w C => ?_)
  replace C : Cx w l Z "com/example/plumbline/plumbline/Grades" prog_32_method_2_code 1 (some .boolean) "gradesAreas" ({ frames := 1, cells := 0, slots := 0, locals := 12 } : Room) n0 := C
  obtain ⟨S_DEF, E_DEF, V_DEF, S_EL, E_EL, F_EL, V_EA, S_EM, E_EM, S_CS, hcs, MIR⟩ := id H
  obtain ⟨kD, V_DEF⟩ := V_DEF
  obtain ⟨kEA, V_EA⟩ := V_EA
  refine g_aloadN C (pc' := 1) d31_0 rfl rfl rfl ?_
  refine g_getF C (pc' := 4) (wd hw 147 rfl) Via.refl d31_1 rfl F0 rfl ?_
  refine g_interface C (pc' := 9) (k' := 0) (n' := 0) (argsL := []) (rest := []) (wd hw 221 rfl) (wd hw 222 rfl) (wd hw 223 rfl) rfl (wd hw 224 rfl) (wd hw 225 rfl) (wd hw 226 rfl) (wd hw 227 rfl) (wd hw 228 rfl) (wd hw 191 rfl) (wd hw 229 rfl) (by decide) d31_4 pd_14 rfl rfl rfl (E_EL.ext O.2) (lnE_0 l Z a0 hw n0 h O s_DEF s_EL s_EA s_EM cs mr H) (Nat.le_of_ble_eq_true rfl) (Nat.le_of_ble_eq_true rfl) (Nat.le_of_ble_eq_true rfl) (Nat.le_of_ble_eq_true rfl) rfl rfl rfl (fun v1401 h1400 q1402 => ?_)
  obtain ⟨rfl, eh1400⟩ := q1402
  subst h1400
  show G w _ h 0 0 9 #[.val (.ref a)] [(.int (1 : Int32))]
  refine g_ifY C (pc' := 16) d31_9 rfl (by decide) (by decide) rfl ?_
  refine g_iconst C (pc' := 17) (v := (0 : Int32)) d31_16 (by decide) rfl ?_
  exact g_zreturn C d31_17 rfl rfl (Nat.le_of_ble_eq_true rfl) (Nat.le_of_ble_eq_true rfl) (⟨rfl, rfl⟩)
theorem d31_12 : decode prog_32_method_2_code 12 = .ok (.iconst 1, 1) := by decide +kernel
theorem d31_13 : decode prog_32_method_2_code 13 = .ok (.goto 4, 3) := by decide +kernel
set_option maxRecDepth 65536 in
set_option maxHeartbeats 40000000 in
theorem gr_1 (l : Launch) (Z : State) (a0 : Array Value) (hw : ∀ d ∈ tables_1, d.before a0 Z = true) (n0 : Nat) (h : Heap) (O : Old Z n0 h) (s_DEF : Addr) (s_EL : Addr) (s_EA : Addr) (s_EM : Addr) (cs : Int32) (mr : Addr) (H : En Z s_DEF s_EL s_EA s_EM cs mr) (a : Addr) (E0 : Exa Z h a "com/example/plumbline/plumbline/Grades") (L : Addr) (F0 : Fld Z h a "com/example/plumbline/plumbline/Grades" "area" "Ljava/util/List;" (.ref L)) (E1 : Exa Z h L "java/util/ImmutableCollections$List12") : Con l Z (⟨"com/example/plumbline/plumbline/Grades", "gradesAreas", "()Z"⟩ : MethodName) prog_32_method_2_code 1 (some .boolean) ({ frames := 1, cells := 0, slots := 0, locals := 12 } : Room) #[(.ref a)] h n0 (fun v h' => v = some (.int (1 : Int32)) ∧ h' = h) := by
  refine Con.mk (Ls := #[.val (.ref a)]) (plainFor_of_name pn_2) (fun m => by first | (simp [entryFrame, mkF, argsToLocals, Value.category]; done) | rfl) (fun w C => ?_)
  replace C : Cx w l Z "com/example/plumbline/plumbline/Grades" prog_32_method_2_code 1 (some .boolean) "gradesAreas" ({ frames := 1, cells := 0, slots := 0, locals := 12 } : Room) n0 := C
  obtain ⟨S_DEF, E_DEF, V_DEF, S_EL, E_EL, F_EL, V_EA, S_EM, E_EM, S_CS, hcs, MIR⟩ := id H
  obtain ⟨kD, V_DEF⟩ := V_DEF
  obtain ⟨kEA, V_EA⟩ := V_EA
  refine g_aloadN C (pc' := 1) d31_0 rfl rfl rfl ?_
  refine g_getF C (pc' := 4) (wd hw 147 rfl) Via.refl d31_1 rfl F0 rfl ?_
  refine g_interface C (pc' := 9) (k' := 0) (n' := 0) (argsL := []) (rest := []) (wd hw 221 rfl) (wd hw 222 rfl) (wd hw 223 rfl) rfl (wd hw 247 rfl) (wd hw 248 rfl) (wd hw 249 rfl) (wd hw 250 rfl) (wd hw 251 rfl) (wd hw 232 rfl) (wd hw 252 rfl) (by decide) d31_4 pd_14 rfl rfl rfl E1 (l12E l Z a0 hw n0 h O s_DEF s_EL s_EA s_EM cs mr H L) (Nat.le_of_ble_eq_true rfl) (Nat.le_of_ble_eq_true rfl) (Nat.le_of_ble_eq_true rfl) (Nat.le_of_ble_eq_true rfl) rfl rfl rfl (fun v1404 h1403 q1405 => ?_)
  obtain ⟨rfl, eh1403⟩ := q1405
  subst h1403
  show G w _ h 0 0 9 #[.val (.ref a)] [(.int (0 : Int32))]
  refine g_ifN C (pc' := 12) d31_9 rfl (by decide) rfl ?_
  refine g_iconst C (pc' := 13) (v := (1 : Int32)) d31_12 (by decide) rfl ?_
  refine g_goto C (pc' := 17) d31_13 (by decide) rfl ?_
  exact g_zreturn C d31_17 rfl rfl (Nat.le_of_ble_eq_true rfl) (Nat.le_of_ble_eq_true rfl) (⟨rfl, rfl⟩)
set_option maxRecDepth 65536 in
set_option maxHeartbeats 40000000 in
theorem gr_2 (l : Launch) (Z : State) (a0 : Array Value) (hw : ∀ d ∈ tables_1, d.before a0 Z = true) (n0 : Nat) (h : Heap) (O : Old Z n0 h) (s_DEF : Addr) (s_EL : Addr) (s_EA : Addr) (s_EM : Addr) (cs : Int32) (mr : Addr) (H : En Z s_DEF s_EL s_EA s_EM cs mr) (a : Addr) (E0 : Exa Z h a "com/example/plumbline/plumbline/Grades") (L : Addr) (F0 : Fld Z h a "com/example/plumbline/plumbline/Grades" "area" "Ljava/util/List;" (.ref L)) (E1 : Exa Z h L "java/util/ImmutableCollections$List12") : Con l Z (⟨"com/example/plumbline/plumbline/Grades", "gradesAreas", "()Z"⟩ : MethodName) prog_32_method_2_code 1 (some .boolean) ({ frames := 1, cells := 0, slots := 0, locals := 12 } : Room) #[(.ref a)] h n0 (fun v h' => v = some (.int (1 : Int32)) ∧ h' = h) := by
  refine Con.mk (Ls := #[.val (.ref a)]) (plainFor_of_name pn_2) (fun m => by first | (simp [entryFrame, mkF, argsToLocals, Value.category]; done) | rfl) (fun w C => ?_)
  replace C : Cx w l Z "com/example/plumbline/plumbline/Grades" prog_32_method_2_code 1 (some .boolean) "gradesAreas" ({ frames := 1, cells := 0, slots := 0, locals := 12 } : Room) n0 := C
  obtain ⟨S_DEF, E_DEF, V_DEF, S_EL, E_EL, F_EL, V_EA, S_EM, E_EM, S_CS, hcs, MIR⟩ := id H
  obtain ⟨kD, V_DEF⟩ := V_DEF
  obtain ⟨kEA, V_EA⟩ := V_EA
  refine g_aloadN C (pc' := 1) d31_0 rfl rfl rfl ?_
  refine g_getF C (pc' := 4) (wd hw 147 rfl) Via.refl d31_1 rfl F0 rfl ?_
  refine g_interface C (pc' := 9) (k' := 0) (n' := 0) (argsL := []) (rest := []) (wd hw 221 rfl) (wd hw 222 rfl) (wd hw 223 rfl) rfl (wd hw 247 rfl) (wd hw 248 rfl) (wd hw 249 rfl) (wd hw 250 rfl) (wd hw 251 rfl) (wd hw 232 rfl) (wd hw 252 rfl) (by decide) d31_4 pd_14 rfl rfl rfl E1 (l12E l Z a0 hw n0 h O s_DEF s_EL s_EA s_EM cs mr H L) (Nat.le_of_ble_eq_true rfl) (Nat.le_of_ble_eq_true rfl) (Nat.le_of_ble_eq_true rfl) (Nat.le_of_ble_eq_true rfl) rfl rfl rfl (fun v1407 h1406 q1408 => ?_)
  obtain ⟨rfl, eh1406⟩ := q1408
  subst h1406
  show G w _ h 0 0 9 #[.val (.ref a)] [(.int (0 : Int32))]
  refine g_ifN C (pc' := 12) d31_9 rfl (by decide) rfl ?_
  refine g_iconst C (pc' := 13) (v := (1 : Int32)) d31_12 (by decide) rfl ?_
  refine g_goto C (pc' := 17) d31_13 (by decide) rfl ?_
  exact g_zreturn C d31_17 rfl rfl (Nat.le_of_ble_eq_true rfl) (Nat.le_of_ble_eq_true rfl) (⟨rfl, rfl⟩)
set_option maxRecDepth 65536 in
set_option maxHeartbeats 40000000 in
theorem gr_3 (l : Launch) (Z : State) (a0 : Array Value) (hw : ∀ d ∈ tables_1, d.before a0 Z = true) (n0 : Nat) (h : Heap) (O : Old Z n0 h) (s_DEF : Addr) (s_EL : Addr) (s_EA : Addr) (s_EM : Addr) (cs : Int32) (mr : Addr) (H : En Z s_DEF s_EL s_EA s_EM cs mr) (a : Addr) (E0 : Exa Z h a "com/example/plumbline/plumbline/Grades") (L : Addr) (ar : Addr) (kA : ClassId) (x : Addr) (F0 : Fld Z h a "com/example/plumbline/plumbline/Grades" "area" "Ljava/util/List;" (.ref L)) (E1 : Exa Z h L "java/util/ImmutableCollections$ListN") (F1 : Fld Z h L "java/util/ImmutableCollections$ListN" "elements" "[Ljava/lang/Object;" (.ref ar)) (A1 : Arv Z h ar kA (.object "java/lang/Object") (3 : Int32) [(.ref x), (.ref x), (.ref x)] .null) : Con l Z (⟨"com/example/plumbline/plumbline/Grades", "gradesAreas", "()Z"⟩ : MethodName) prog_32_method_2_code 1 (some .boolean) ({ frames := 1, cells := 0, slots := 0, locals := 12 } : Room) #[(.ref a)] h n0 (fun v h' => v = some (.int (1 : Int32)) ∧ h' = h) := by
  refine Con.mk (Ls := #[.val (.ref a)]) (plainFor_of_name pn_2) (fun m => by first | (simp [entryFrame, mkF, argsToLocals, Value.category]; done) | rfl) (fun w C => ?_)
  replace C : Cx w l Z "com/example/plumbline/plumbline/Grades" prog_32_method_2_code 1 (some .boolean) "gradesAreas" ({ frames := 1, cells := 0, slots := 0, locals := 12 } : Room) n0 := C
  obtain ⟨S_DEF, E_DEF, V_DEF, S_EL, E_EL, F_EL, V_EA, S_EM, E_EM, S_CS, hcs, MIR⟩ := id H
  obtain ⟨kD, V_DEF⟩ := V_DEF
  obtain ⟨kEA, V_EA⟩ := V_EA
  refine g_aloadN C (pc' := 1) d31_0 rfl rfl rfl ?_
  refine g_getF C (pc' := 4) (wd hw 147 rfl) Via.refl d31_1 rfl F0 rfl ?_
  refine g_interface C (pc' := 9) (k' := 0) (n' := 0) (argsL := []) (rest := []) (wd hw 221 rfl) (wd hw 222 rfl) (wd hw 223 rfl) rfl (wd hw 224 rfl) (wd hw 225 rfl) (wd hw 226 rfl) (wd hw 227 rfl) (wd hw 228 rfl) (wd hw 191 rfl) (wd hw 229 rfl) (by decide) d31_4 pd_14 rfl rfl rfl E1 (lnE_3 l Z a0 hw n0 h O s_DEF s_EL s_EA s_EM cs mr H L ar kA x x x F1 A1) (Nat.le_of_ble_eq_true rfl) (Nat.le_of_ble_eq_true rfl) (Nat.le_of_ble_eq_true rfl) (Nat.le_of_ble_eq_true rfl) rfl rfl rfl (fun v1410 h1409 q1411 => ?_)
  obtain ⟨rfl, eh1409⟩ := q1411
  subst h1409
  show G w _ h 0 0 9 #[.val (.ref a)] [(.int (0 : Int32))]
  refine g_ifN C (pc' := 12) d31_9 rfl (by decide) rfl ?_
  refine g_iconst C (pc' := 13) (v := (1 : Int32)) d31_12 (by decide) rfl ?_
  refine g_goto C (pc' := 17) d31_13 (by decide) rfl ?_
  exact g_zreturn C d31_17 rfl rfl (Nat.le_of_ble_eq_true rfl) (Nat.le_of_ble_eq_true rfl) (⟨rfl, rfl⟩)
theorem own_255 (x : Int32) : ¬ (255 : Int32) < (x &&& 255) := by
  have h := c_mask x 255 8 (by decide) (by decide)
  rw [Int32.lt_iff_toInt_lt, h]
  have e : (255 : Int32).toInt = 255 := by decide
  omega
theorem own_and3 (x : Int32) : (x &&& (3 : Int32)) = (0 : Int32) ∨ (x &&& (3 : Int32)) = (1 : Int32) ∨ (x &&& (3 : Int32)) = (2 : Int32) ∨ (x &&& (3 : Int32)) = (3 : Int32) := by
  have h2 := c_mask x 3 2 (by decide) (by decide)
  simp only [← Int32.toInt_inj, h2]
  have h3 : x.toInt % 4 = 0 ∨ x.toInt % 4 = 1 ∨ x.toInt % 4 = 2 ∨ x.toInt % 4 = 3 := by omega
  rcases h3 with h | h | h | h <;> simp [h]
def LQ : Option Value → Heap → Prop := fun v _ => v = some (.int (1 : Int32))
theorem pd_0 : parseMethodDescriptor "(C)Ljava/lang/String;" = some ⟨[.char], some (.object "java/lang/String")⟩ := by decide +kernel
theorem pd_5 : parseMethodDescriptor "(Ljava/lang/String;Ljava/lang/String;)V" = some ⟨[(.object "java/lang/String"), (.object "java/lang/String")], none⟩ := by decide +kernel
theorem pd_6 : parseMethodDescriptor "(Lcom/example/plumbline/plumbline/Points;ZLcom/example/plumbline/plumbline/Points;ZLjava/lang/Object;)V" = some ⟨[(.object "com/example/plumbline/plumbline/Points"), .boolean, (.object "com/example/plumbline/plumbline/Points"), .boolean, (.object "java/lang/Object")], none⟩ := by decide +kernel
theorem pd_12 : parseMethodDescriptor "(Ljava/util/List;Ljava/util/List;)V" = some ⟨[(.object "java/util/List"), (.object "java/util/List")], none⟩ := by decide +kernel
theorem pd_7 : parseMethodDescriptor "(Ljava/lang/Object;)Z" = some ⟨[(.object "java/lang/Object")], some .boolean⟩ := by decide +kernel
theorem pn_3 : plainName "com/example/plumbline/plumbline/GradesGradesAreasPinLaw" = true := by first | (simp [plainName, overriddenIn]; done) | decide +kernel
set_option maxRecDepth 65536 in
set_option maxHeartbeats 40000000 in
theorem rm0 (l : Launch) (Z : State) (a0 : Array Value) (hw : ∀ d ∈ tables_1, d.before a0 Z = true) (n0 : Nat) (h : Heap) (O : Old Z n0 h) (s_DEF : Addr) (s_EL : Addr) (s_EA : Addr) (s_EM : Addr) (cs : Int32) (mr : Addr) (H : En Z s_DEF s_EL s_EA s_EM cs mr) (p0 : Int32) (p1 : Int32) (p2 : Int32) : Con l Z x code maxLocals ret room_1 #[(.int p0), (.int p1), (.int p2)] h n0 (LQ) := by
  refine Con.mk (Ls := #[.val (.int p0), .val (.int p1), .val (.int p2), .unset, .unset, .unset, .unset, .unset, .unset, .unset]) (plainFor_of_name pn_3) (fun m => by first | (simp [entryFrame, mkF, argsToLocals, Value.category, maxLocals]; done) | rfl) (fun w C => ?_)
  replace C : Cx w l Z "com/example/plumbline/plumbline/GradesGradesAreasPinLaw" code 10 (some .boolean) "law" room_1 n0 := C
  obtain ⟨S_DEF, E_DEF, V_DEF, S_EL, E_EL, F_EL, V_EA, S_EM, E_EM, S_CS, hcs, MIR⟩ := id H
  obtain ⟨kD, V_DEF⟩ := V_DEF
  refine g_iloadN C (pc' := 1) at_0 rfl rfl ?_
  refine g_iconst C (pc' := 2) (v := (3 : Int32)) at_1 (by decide) rfl ?_
  refine g_iand C (pc' := 3) at_2 rfl rfl ?_
  refine g_istoreN C (pc' := 4) (Ls' := #[.val (.int p0), .val (.int p1), .val (.int p2), .val (.int (p0 &&& (3 : Int32))), .unset, .unset, .unset, .unset, .unset, .unset]) at_3 rfl rfl rfl ?_
  refine g_iloadN C (pc' := 5) at_4 rfl rfl ?_
  refine g_iconst C (pc' := 6) (v := (3 : Int32)) at_5 (by decide) rfl ?_
  refine g_iand C (pc' := 7) at_6 rfl rfl ?_
  refine g_istore C (pc' := 9) (Ls' := #[.val (.int p0), .val (.int p1), .val (.int p2), .val (.int (p0 &&& (3 : Int32))), .val (.int (p1 &&& (3 : Int32))), .unset, .unset, .unset, .unset, .unset]) at_7 rfl rfl rfl ?_
  refine g_new C (pc' := 12) (k' := 1) (n' := 5) (wd hw 0 rfl) (wd hw 1 rfl) (wd hw 2 rfl) at_9 (by decide) (by decide) rfl rfl rfl (fun h1412 b1413 ex1414 E1415 A1416 D1417 => ?_)
  have ge_b1413 : n0 ≤ b1413 := by rw [ex1414]; exact O.1 ▸ O.2.1
  have f1418 := O.ext E1415
  have F_lower_b1413 : Fld Z h1412 b1413 "com/example/plumbline/plumbline/Band" "lower" "Lcom/example/plumbline/plumbline/Points;" .null := D1417 (Or.inr (wd hw 45 rfl)) (ty := (.object "com/example/plumbline/plumbline/Points")) (by decide)
  have F_lowerHeld_b1413 : Fld Z h1412 b1413 "com/example/plumbline/plumbline/Band" "lowerHeld" "Z" (.int (0 : Int32)) := D1417 (Or.inr (wd hw 47 rfl)) (ty := .boolean) (by decide)
  have F_upper_b1413 : Fld Z h1412 b1413 "com/example/plumbline/plumbline/Band" "upper" "Lcom/example/plumbline/plumbline/Points;" .null := D1417 (Or.inr (wd hw 49 rfl)) (ty := (.object "com/example/plumbline/plumbline/Points")) (by decide)
  have F_upperHeld_b1413 : Fld Z h1412 b1413 "com/example/plumbline/plumbline/Band" "upperHeld" "Z" (.int (0 : Int32)) := D1417 (Or.inr (wd hw 51 rfl)) (ty := .boolean) (by decide)
  have F_gives_b1413 : Fld Z h1412 b1413 "com/example/plumbline/plumbline/Band" "gives" "Ljava/lang/Object;" .null := D1417 (Or.inr (wd hw 53 rfl)) (ty := (.object "java/lang/Object")) (by decide)
  refine g_dup C (pc' := 13) at_12 rfl rfl rfl ?_
  refine g_aconstNull C (pc' := 14) at_13 rfl ?_
  refine g_iconst C (pc' := 15) (v := (1 : Int32)) at_14 (by decide) rfl ?_
  refine g_aconstNull C (pc' := 16) at_15 rfl ?_
  refine g_iconst C (pc' := 17) (v := (1 : Int32)) at_16 (by decide) rfl ?_
  refine g_new C (pc' := 20) (k' := 2) (n' := 7) (wd hw 3 rfl) (wd hw 4 rfl) (wd hw 5 rfl) at_17 (by decide) (by decide) rfl rfl rfl (fun h1419 b1420 ex1421 E1422 A1423 D1424 => ?_)
  have ne_b1413_b1420 : b1413 ≠ b1420 := Nat.ne_of_lt (by rw [ex1421]; exact A1416.lt)
  have ge_b1420 : n0 ≤ b1420 := by rw [ex1421]; exact f1418.1 ▸ f1418.2.1
  have f1425 := f1418.ext E1422
  have f1426 := A1416.ext E1422
  have f1427 := F_lower_b1413.ext E1422
  have f1428 := F_lowerHeld_b1413.ext E1422
  have f1429 := F_upper_b1413.ext E1422
  have f1430 := F_upperHeld_b1413.ext E1422
  have f1431 := F_gives_b1413.ext E1422
  have F_name_b1420 : Fld Z h1419 b1420 "com/example/plumbline/plumbline/Grade" "name" "Ljava/lang/String;" .null := D1424 (Or.inr (wd hw 37 rfl)) (ty := (.object "java/lang/String")) (by decide)
  have F_overall_b1420 : Fld Z h1419 b1420 "com/example/plumbline/plumbline/Grade" "overall" "Ljava/lang/String;" .null := D1424 (Or.inr (wd hw 39 rfl)) (ty := (.object "java/lang/String")) (by decide)
  refine g_dup C (pc' := 21) at_20 rfl rfl rfl ?_
  refine g_iloadN C (pc' := 22) at_21 rfl rfl ?_
  refine g_sipush C (pc' := 25) (v := (255 : Int32)) at_22 (by decide) rfl ?_
  refine g_iand C (pc' := 26) at_25 rfl rfl ?_
  refine g_i2c C (pc' := 27) at_26 rfl rfl ?_
  rw [i2c_mask]
  refine g_callS C (pc' := 30) (k' := 4) (n' := 12) (argsL := [(.int (p2 &&& (255 : Int32)))]) (rest := [(.ref b1420), (.ref b1420), (.int (1 : Int32)), .null, (.int (1 : Int32)), .null, (.ref b1413), (.ref b1413)]) (wd hw 6 rfl) (wd hw 7 rfl) (wd hw 8 rfl) (wd hw 9 rfl) (by decide) at_27 pd_0 rfl rfl rfl (valueOf l Z a0 hw n0 h1419 f1425 s_DEF s_EL s_EA s_EM cs mr H (p2 &&& (255 : Int32)) (own_255 _)) (Nat.le_of_ble_eq_true rfl) (Nat.le_of_ble_eq_true rfl) (Nat.le_of_ble_eq_true rfl) (Nat.le_of_ble_eq_true rfl) rfl rfl rfl (fun v1436 h1435 q1437 => ?_)
  obtain ⟨sg1432, rfl, hg1433, K1434⟩ := q1437
  have ne_b1413_sg1432 : b1413 ≠ sg1432 := Nat.ne_of_lt (Nat.lt_of_lt_of_le f1426.lt hg1433)
  have ne_b1420_sg1432 : b1420 ≠ sg1432 := Nat.ne_of_lt (Nat.lt_of_lt_of_le A1423.lt hg1433)
  have ge_sg1432 : n0 ≤ sg1432 := Nat.le_trans (f1425.1 ▸ f1425.2.1) hg1433
  have f1438 := f1425.keep K1434 all0
  have f1439 := f1426.keep K1434
  have f1440 := f1427.keep K1434 nin0
  have f1441 := f1428.keep K1434 nin0
  have f1442 := f1429.keep K1434 nin0
  have f1443 := f1430.keep K1434 nin0
  have f1444 := f1431.keep K1434 nin0
  have f1445 := A1423.keep K1434
  have f1446 := F_name_b1420.keep K1434 nin0
  have f1447 := F_overall_b1420.keep K1434 nin0
  show G w _ h1435 4 12 30 #[.val (.int p0), .val (.int p1), .val (.int p2), .val (.int (p0 &&& (3 : Int32))), .val (.int (p1 &&& (3 : Int32))), .unset, .unset, .unset, .unset, .unset] [(.ref sg1432), (.ref b1420), (.ref b1420), (.int (1 : Int32)), .null, (.int (1 : Int32)), .null, (.ref b1413), (.ref b1413)]
  refine g_aconstNull C (pc' := 31) at_30 rfl ?_
  refine g_special C (pc' := 34) (k' := 4) (n' := 12) (argsL := [(.ref sg1432), .null]) (rest := [(.ref b1420), (.int (1 : Int32)), .null, (.int (1 : Int32)), .null, (.ref b1413), (.ref b1413)]) (wd hw 32 rfl) (wd hw 33 rfl) (wd hw 5 rfl) (wd hw 34 rfl) (by decide) rfl at_31 pd_5 rfl rfl rfl (grI l Z a0 hw n0 h1435 f1438 s_DEF s_EL s_EA s_EM cs mr H b1420 sg1432 ge_b1420 f1445 f1446 f1447) (Nat.le_of_ble_eq_true rfl) (Nat.le_of_ble_eq_true rfl) (Nat.le_of_ble_eq_true rfl) (Nat.le_of_ble_eq_true rfl) rfl rfl rfl (fun v1450 h1449 q1451 => ?_)
  obtain ⟨rfl, K1448⟩ := q1451
  have f1452 := f1438.keep K1448 (allS ge_b1420 all0)
  have f1453 := f1439.keep K1448
  have f1454 := f1440.keep K1448 (ninS ne_b1413_b1420 nin0)
  have f1455 := f1441.keep K1448 (ninS ne_b1413_b1420 nin0)
  have f1456 := f1442.keep K1448 (ninS ne_b1413_b1420 nin0)
  have f1457 := f1443.keep K1448 (ninS ne_b1413_b1420 nin0)
  have f1458 := f1444.keep K1448 (ninS ne_b1413_b1420 nin0)
  have f1459 := f1445.keep K1448
  show G w _ h1449 4 12 34 #[.val (.int p0), .val (.int p1), .val (.int p2), .val (.int (p0 &&& (3 : Int32))), .val (.int (p1 &&& (3 : Int32))), .unset, .unset, .unset, .unset, .unset] [(.ref b1420), (.int (1 : Int32)), .null, (.int (1 : Int32)), .null, (.ref b1413), (.ref b1413)]
  refine g_special C (pc' := 37) (k' := 4) (n' := 12) (argsL := [.null, (.int (1 : Int32)), .null, (.int (1 : Int32)), (.ref b1420)]) (rest := [(.ref b1413)]) (wd hw 40 rfl) (wd hw 41 rfl) (wd hw 2 rfl) (wd hw 42 rfl) (by decide) rfl at_34 pd_6 rfl rfl rfl (bdI l Z a0 hw n0 h1449 f1452 s_DEF s_EL s_EA s_EM cs mr H b1413 b1420 ge_b1413 f1453 f1454 f1455 f1456 f1457 f1458) (Nat.le_of_ble_eq_true rfl) (Nat.le_of_ble_eq_true rfl) (Nat.le_of_ble_eq_true rfl) (Nat.le_of_ble_eq_true rfl) rfl rfl rfl (fun v1462 h1461 q1463 => ?_)
  obtain ⟨rfl, K1460⟩ := q1463
  have f1464 := f1452.keep K1460 (allS ge_b1413 all0)
  have f1465 := f1453.keep K1460
  have f1466 := f1459.keep K1460
  show G w _ h1461 4 12 37 #[.val (.int p0), .val (.int p1), .val (.int p2), .val (.int (p0 &&& (3 : Int32))), .val (.int (p1 &&& (3 : Int32))), .unset, .unset, .unset, .unset, .unset] [(.ref b1413)]
  refine g_astore C (pc' := 39) (Ls' := #[.val (.int p0), .val (.int p1), .val (.int p2), .val (.int (p0 &&& (3 : Int32))), .val (.int (p1 &&& (3 : Int32))), .val (.ref b1413), .unset, .unset, .unset, .unset]) at_37 rfl rfl rfl rfl ?_
  refine g_new C (pc' := 42) (k' := 5) (n' := 15) (wd hw 54 rfl) (wd hw 55 rfl) (wd hw 56 rfl) at_39 (by decide) (by decide) rfl rfl rfl (fun h1467 b1468 ex1469 E1470 A1471 D1472 => ?_)
  have ne_b1413_b1468 : b1413 ≠ b1468 := Nat.ne_of_lt (by rw [ex1469]; exact f1465.lt)
  have ne_b1420_b1468 : b1420 ≠ b1468 := Nat.ne_of_lt (by rw [ex1469]; exact f1466.lt)
  have ge_b1468 : n0 ≤ b1468 := by rw [ex1469]; exact f1464.1 ▸ f1464.2.1
  have f1473 := f1464.ext E1470
  have f1474 := f1465.ext E1470
  have f1475 := f1466.ext E1470
  have F_modCount_b1468 : Fld Z h1467 b1468 "java/util/AbstractList" "modCount" "I" (.int (0 : Int32)) := D1472 (Or.inl (wd hw 74 rfl)) (ty := .int) (by decide)
  have F_elementData_b1468 : Fld Z h1467 b1468 "java/util/ArrayList" "elementData" "[Ljava/lang/Object;" .null := D1472 (Or.inl (wd hw 77 rfl)) (ty := (.array (.object "java/lang/Object"))) (by decide)
  have F_size_b1468 : Fld Z h1467 b1468 "java/util/ArrayList" "size" "I" (.int (0 : Int32)) := D1472 (Or.inl (wd hw 90 rfl)) (ty := .int) (by decide)
  refine g_dup C (pc' := 43) at_42 rfl rfl rfl ?_
  refine g_special C (pc' := 46) (k' := 5) (n' := 15) (argsL := []) (rest := [(.ref b1468)]) (wd hw 57 rfl) (wd hw 58 rfl) (wd hw 56 rfl) (wd hw 59 rfl) (by decide) rfl at_43 pd_4 rfl rfl rfl (al_init l Z a0 hw n0 h1467 f1473 s_DEF s_EL s_EA s_EM cs mr H b1468 ge_b1468 A1471 F_modCount_b1468 F_elementData_b1468 F_size_b1468) (Nat.le_of_ble_eq_true rfl) (Nat.le_of_ble_eq_true rfl) (Nat.le_of_ble_eq_true rfl) (Nat.le_of_ble_eq_true rfl) rfl rfl rfl (fun v1479 h1478 q1480 => ?_)
  obtain ⟨rfl, K1476, P1477⟩ := q1480
  have f1481 := f1473.keep K1476 (allS ge_b1468 all0)
  have f1482 := f1474.keep K1476
  have f1483 := f1475.keep K1476
  have f1484 := A1471.keep K1476
  show G w _ h1478 5 15 46 #[.val (.int p0), .val (.int p1), .val (.int p2), .val (.int (p0 &&& (3 : Int32))), .val (.int (p1 &&& (3 : Int32))), .val (.ref b1413), .unset, .unset, .unset, .unset] [(.ref b1468)]
  refine g_astore C (pc' := 48) (Ls' := #[.val (.int p0), .val (.int p1), .val (.int p2), .val (.int (p0 &&& (3 : Int32))), .val (.int (p1 &&& (3 : Int32))), .val (.ref b1413), .val (.ref b1468), .unset, .unset, .unset]) at_46 rfl rfl rfl rfl ?_
  refine g_new C (pc' := 51) (k' := 6) (n' := 18) (wd hw 54 rfl) (wd hw 55 rfl) (wd hw 56 rfl) at_48 (by decide) (by decide) rfl rfl rfl (fun h1485 b1486 ex1487 E1488 A1489 D1490 => ?_)
  have ne_b1413_b1486 : b1413 ≠ b1486 := Nat.ne_of_lt (by rw [ex1487]; exact f1482.lt)
  have ne_b1420_b1486 : b1420 ≠ b1486 := Nat.ne_of_lt (by rw [ex1487]; exact f1483.lt)
  have ne_b1468_b1486 : b1468 ≠ b1486 := Nat.ne_of_lt (by rw [ex1487]; exact f1484.lt)
  have ge_b1486 : n0 ≤ b1486 := by rw [ex1487]; exact f1481.1 ▸ f1481.2.1
  have f1491 := f1481.ext E1488
  have f1492 := f1482.ext E1488
  have f1493 := f1483.ext E1488
  have f1494 := f1484.ext E1488
  have f1495 := own_AL0_ext P1477 E1488
  have F_modCount_b1486 : Fld Z h1485 b1486 "java/util/AbstractList" "modCount" "I" (.int (0 : Int32)) := D1490 (Or.inl (wd hw 74 rfl)) (ty := .int) (by decide)
  have F_elementData_b1486 : Fld Z h1485 b1486 "java/util/ArrayList" "elementData" "[Ljava/lang/Object;" .null := D1490 (Or.inl (wd hw 77 rfl)) (ty := (.array (.object "java/lang/Object"))) (by decide)
  have F_size_b1486 : Fld Z h1485 b1486 "java/util/ArrayList" "size" "I" (.int (0 : Int32)) := D1490 (Or.inl (wd hw 90 rfl)) (ty := .int) (by decide)
  refine g_dup C (pc' := 52) at_51 rfl rfl rfl ?_
  refine g_special C (pc' := 55) (k' := 6) (n' := 18) (argsL := []) (rest := [(.ref b1486)]) (wd hw 57 rfl) (wd hw 58 rfl) (wd hw 56 rfl) (wd hw 59 rfl) (by decide) rfl at_52 pd_4 rfl rfl rfl (al_init l Z a0 hw n0 h1485 f1491 s_DEF s_EL s_EA s_EM cs mr H b1486 ge_b1486 A1489 F_modCount_b1486 F_elementData_b1486 F_size_b1486) (Nat.le_of_ble_eq_true rfl) (Nat.le_of_ble_eq_true rfl) (Nat.le_of_ble_eq_true rfl) (Nat.le_of_ble_eq_true rfl) rfl rfl rfl (fun v1499 h1498 q1500 => ?_)
  obtain ⟨rfl, K1496, P1497⟩ := q1500
  have f1501 := f1491.keep K1496 (allS ge_b1486 all0)
  have f1502 := f1492.keep K1496
  have f1503 := f1493.keep K1496
  have f1504 := f1494.keep K1496
  have f1505 := own_AL0_keep f1495 K1496 (ninS ne_b1468_b1486 nin0)
  have f1506 := A1489.keep K1496
  show G w _ h1498 6 18 55 #[.val (.int p0), .val (.int p1), .val (.int p2), .val (.int (p0 &&& (3 : Int32))), .val (.int (p1 &&& (3 : Int32))), .val (.ref b1413), .val (.ref b1468), .unset, .unset, .unset] [(.ref b1486)]
  refine g_astore C (pc' := 57) (Ls' := #[.val (.int p0), .val (.int p1), .val (.int p2), .val (.int (p0 &&& (3 : Int32))), .val (.int (p1 &&& (3 : Int32))), .val (.ref b1413), .val (.ref b1468), .val (.ref b1486), .unset, .unset]) at_55 rfl rfl rfl rfl ?_
  rcases own_and3 p0 with e4 | e4 | e4 | e4
  · rw [e4]
    refine g_iloadN C (pc' := 58) at_57 rfl rfl ?_
    refine g_ifY C (pc' := 71) at_58 rfl (by decide) (by decide) rfl ?_
    refine g_iloadN C (pc' := 72) at_71 rfl rfl ?_
    refine g_iconst C (pc' := 73) (v := (1 : Int32)) at_72 (by decide) rfl ?_
    refine g_icY C (pc' := 86) at_73 rfl (by decide) (by decide) rfl ?_
    refine g_iloadN C (pc' := 87) at_86 rfl rfl ?_
    refine g_iconst C (pc' := 88) (v := (2 : Int32)) at_87 (by decide) rfl ?_
    refine g_icY C (pc' := 101) at_88 rfl (by decide) (by decide) rfl ?_
    rcases own_and3 p1 with e4 | e4 | e4 | e4
    · rw [e4]
      refine g_iload C (pc' := 103) at_101 rfl rfl ?_
      refine g_ifY C (pc' := 116) at_103 rfl (by decide) (by decide) rfl ?_
      refine g_iload C (pc' := 118) at_116 rfl rfl ?_
      refine g_iconst C (pc' := 119) (v := (1 : Int32)) at_118 (by decide) rfl ?_
      refine g_icY C (pc' := 132) at_119 rfl (by decide) (by decide) rfl ?_
      refine g_iload C (pc' := 134) at_132 rfl rfl ?_
      refine g_iconst C (pc' := 135) (v := (2 : Int32)) at_134 (by decide) rfl ?_
      refine g_icY C (pc' := 148) at_135 rfl (by decide) (by decide) rfl ?_
      refine g_new C (pc' := 151) (k' := 7) (n' := 20) (wd hw 113 rfl) (wd hw 114 rfl) (wd hw 115 rfl) at_148 (by decide) (by decide) rfl rfl rfl (fun h1507 b1508 ex1509 E1510 A1511 D1512 => ?_)
      have ne_b1413_b1508 : b1413 ≠ b1508 := Nat.ne_of_lt (by rw [ex1509]; exact f1502.lt)
      have ne_b1420_b1508 : b1420 ≠ b1508 := Nat.ne_of_lt (by rw [ex1509]; exact f1503.lt)
      have ne_b1468_b1508 : b1468 ≠ b1508 := Nat.ne_of_lt (by rw [ex1509]; exact f1504.lt)
      have ne_b1486_b1508 : b1486 ≠ b1508 := Nat.ne_of_lt (by rw [ex1509]; exact f1506.lt)
      have ge_b1508 : n0 ≤ b1508 := by rw [ex1509]; exact f1501.1 ▸ f1501.2.1
      have f1513 := f1501.ext E1510
      have f1514 := f1502.ext E1510
      have f1515 := f1503.ext E1510
      have f1516 := f1504.ext E1510
      have f1517 := own_AL0_ext f1505 E1510
      have f1518 := f1506.ext E1510
      have f1519 := own_AL0_ext P1497 E1510
      have F_area_b1508 : Fld Z h1507 b1508 "com/example/plumbline/plumbline/Grades" "area" "Ljava/util/List;" .null := D1512 (Or.inr (wd hw 148 rfl)) (ty := (.object "java/util/List")) (by decide)
      have F_total_b1508 : Fld Z h1507 b1508 "com/example/plumbline/plumbline/Grades" "total" "Ljava/util/List;" .null := D1512 (Or.inr (wd hw 215 rfl)) (ty := (.object "java/util/List")) (by decide)
      refine g_dup C (pc' := 152) at_151 rfl rfl rfl ?_
      refine g_aload C (pc' := 154) at_152 rfl rfl rfl ?_
      refine g_aload C (pc' := 156) at_154 rfl rfl rfl ?_
      refine g_special C (pc' := 159) (k' := 7) (n' := 20) (argsL := [(.ref b1468), (.ref b1486)]) (rest := [(.ref b1508)]) (wd hw 116 rfl) (wd hw 117 rfl) (wd hw 115 rfl) (wd hw 118 rfl) (by decide) rfl at_156 pd_12 rfl rfl rfl (gsI_00 l Z a0 hw n0 h1507 f1513 s_DEF s_EL s_EA s_EM cs mr H b1508 b1413 ge_b1508 b1468 (0 : Int32) b1486 (0 : Int32) A1511 F_area_b1508 F_total_b1508 f1514 f1517 f1519 (Ne.symm ne_b1468_b1508) (Ne.symm ne_b1486_b1508)) (Nat.le_of_ble_eq_true rfl) (Nat.le_of_ble_eq_true rfl) (Nat.le_of_ble_eq_true rfl) (Nat.le_of_ble_eq_true rfl) rfl rfl rfl (fun v1524 h1523 q1525 => ?_)
      obtain ⟨rfl, K1520, E1521, F1522⟩ := q1525
      have f1526 := f1513.keep K1520 (allS ge_b1508 all0)
      have f1527 := f1514.keep K1520
      have f1528 := f1515.keep K1520
      have f1529 := f1516.keep K1520
      have f1530 := own_AL0_keep f1517 K1520 (ninS ne_b1468_b1508 nin0)
      have f1531 := f1518.keep K1520
      have f1532 := own_AL0_keep f1519 K1520 (ninS ne_b1486_b1508 nin0)
      have f1533 := A1511.keep K1520
      show G w _ h1523 7 20 159 #[.val (.int p0), .val (.int p1), .val (.int p2), .val (.int (0 : Int32)), .val (.int (0 : Int32)), .val (.ref b1413), .val (.ref b1468), .val (.ref b1486), .unset, .unset] [(.ref b1508)]
      refine g_astore C (pc' := 161) (Ls' := #[.val (.int p0), .val (.int p1), .val (.int p2), .val (.int (0 : Int32)), .val (.int (0 : Int32)), .val (.ref b1413), .val (.ref b1468), .val (.ref b1486), .val (.ref b1508), .unset]) at_159 rfl rfl rfl rfl ?_
      refine g_iloadN C (pc' := 162) at_161 rfl rfl ?_
      refine g_ifY C (pc' := 169) at_162 rfl (by decide) (by decide) rfl ?_
      refine g_iconst C (pc' := 170) (v := (0 : Int32)) at_169 (by decide) rfl ?_
      refine g_istore C (pc' := 172) (Ls' := #[.val (.int p0), .val (.int p1), .val (.int p2), .val (.int (0 : Int32)), .val (.int (0 : Int32)), .val (.ref b1413), .val (.ref b1468), .val (.ref b1486), .val (.ref b1508), .val (.int (0 : Int32))]) at_170 rfl rfl rfl ?_
      refine g_aload C (pc' := 174) at_172 rfl rfl rfl ?_
      refine g_virtual C (pc' := 177) (k' := 7) (n' := 20) (argsL := []) (rest := []) (wd hw 216 rfl) (wd hw 217 rfl) (nfSel (wd hw 219 rfl)) (wd hw 219 rfl) (wd hw 218 rfl) (wd hw 115 rfl) (wd hw 220 rfl) (by decide) at_174 pd_14 rfl rfl rfl E1521 (gr_0 l Z a0 hw n0 h1523 f1526 s_DEF s_EL s_EA s_EM cs mr H b1508 E1521 F1522) (Nat.le_of_ble_eq_true rfl) (Nat.le_of_ble_eq_true rfl) (Nat.le_of_ble_eq_true rfl) (Nat.le_of_ble_eq_true rfl) rfl rfl rfl (fun v1535 h1534 q1536 => ?_)
      obtain ⟨rfl, eh1534⟩ := q1536
      subst h1534
      show G w _ h1523 7 20 177 #[.val (.int p0), .val (.int p1), .val (.int p2), .val (.int (0 : Int32)), .val (.int (0 : Int32)), .val (.ref b1413), .val (.ref b1468), .val (.ref b1486), .val (.ref b1508), .val (.int (0 : Int32))] [(.int (0 : Int32))]
      refine g_iload C (pc' := 179) at_177 rfl rfl ?_
      refine g_icN C (pc' := 182) at_179 rfl (by decide) rfl ?_
      refine g_iconst C (pc' := 183) (v := (1 : Int32)) at_182 (by decide) rfl ?_
      refine g_goto C (pc' := 187) at_183 (by decide) rfl ?_
      exact g_zreturn C at_187 rfl rfl (Nat.le_of_ble_eq_true rfl) (Nat.le_of_ble_eq_true rfl) (rfl)
    · rw [e4]
      refine g_iload C (pc' := 103) at_101 rfl rfl ?_
      refine g_ifN C (pc' := 106) at_103 rfl (by decide) rfl ?_
      refine g_aload C (pc' := 108) at_106 rfl rfl rfl ?_
      refine g_aload C (pc' := 110) at_108 rfl rfl rfl ?_
      refine g_interface C (pc' := 115) (k' := 7) (n' := 28) (argsL := [(.ref b1413)]) (rest := []) (wd hw 78 rfl) (wd hw 79 rfl) (wd hw 80 rfl) rfl (wd hw 81 rfl) (wd hw 82 rfl) (wd hw 83 rfl) (wd hw 84 rfl) (wd hw 85 rfl) (wd hw 56 rfl) (wd hw 86 rfl) (by decide) at_110 pd_7 rfl rfl rfl f1506 (add_0 l Z a0 hw n0 h1498 f1501 s_DEF s_EL s_EA s_EM cs mr H b1486 (0 : Int32) b1413 f1502 P1497) (Nat.le_of_ble_eq_true rfl) (Nat.le_of_ble_eq_true rfl) (Nat.le_of_ble_eq_true rfl) (Nat.le_of_ble_eq_true rfl) rfl rfl rfl (fun v1543 h1542 q1544 => ?_)
      obtain ⟨rfl, K1537, ed1539, kE1540, hg1541, P1538⟩ := q1544
      have ne_b1413_ed1539 : b1413 ≠ ed1539 := Nat.ne_of_lt (Nat.lt_of_lt_of_le f1502.lt hg1541)
      have ne_b1420_ed1539 : b1420 ≠ ed1539 := Nat.ne_of_lt (Nat.lt_of_lt_of_le f1503.lt hg1541)
      have ne_b1468_ed1539 : b1468 ≠ ed1539 := Nat.ne_of_lt (Nat.lt_of_lt_of_le f1504.lt hg1541)
      have ne_b1486_ed1539 : b1486 ≠ ed1539 := Nat.ne_of_lt (Nat.lt_of_lt_of_le f1506.lt hg1541)
      have ge_ed1539 : n0 ≤ ed1539 := Nat.le_trans (f1501.1 ▸ f1501.2.1) hg1541
      have f1545 := f1501.keep K1537 (allS ge_b1486 all0)
      have f1546 := f1502.keep K1537
      have f1547 := f1503.keep K1537
      have f1548 := f1504.keep K1537
      have f1549 := own_AL0_keep f1505 K1537 (ninS ne_b1468_b1486 nin0)
      have f1550 := f1506.keep K1537
      have E1551 := P1538.2.2.2.2.2.1
      show G w _ h1542 7 28 115 #[.val (.int p0), .val (.int p1), .val (.int p2), .val (.int (0 : Int32)), .val (.int (1 : Int32)), .val (.ref b1413), .val (.ref b1468), .val (.ref b1486), .unset, .unset] [(.int (1 : Int32))]
      refine g_pop C (pc' := 116) at_115 rfl rfl rfl ?_
      refine g_iload C (pc' := 118) at_116 rfl rfl ?_
      refine g_iconst C (pc' := 119) (v := (1 : Int32)) at_118 (by decide) rfl ?_
      refine g_icY C (pc' := 132) at_119 rfl (by decide) (by decide) rfl ?_
      refine g_iload C (pc' := 134) at_132 rfl rfl ?_
      refine g_iconst C (pc' := 135) (v := (2 : Int32)) at_134 (by decide) rfl ?_
      refine g_icY C (pc' := 148) at_135 rfl (by decide) (by decide) rfl ?_
      refine g_new C (pc' := 151) (k' := 8) (n' := 30) (wd hw 113 rfl) (wd hw 114 rfl) (wd hw 115 rfl) at_148 (by decide) (by decide) rfl rfl rfl (fun h1552 b1553 ex1554 E1555 A1556 D1557 => ?_)
      have ne_b1413_b1553 : b1413 ≠ b1553 := Nat.ne_of_lt (by rw [ex1554]; exact f1546.lt)
      have ne_b1420_b1553 : b1420 ≠ b1553 := Nat.ne_of_lt (by rw [ex1554]; exact f1547.lt)
      have ne_b1468_b1553 : b1468 ≠ b1553 := Nat.ne_of_lt (by rw [ex1554]; exact f1548.lt)
      have ne_b1486_b1553 : b1486 ≠ b1553 := Nat.ne_of_lt (by rw [ex1554]; exact f1550.lt)
      have ne_ed1539_b1553 : ed1539 ≠ b1553 := Nat.ne_of_lt (by rw [ex1554]; exact E1551.lt)
      have ge_b1553 : n0 ≤ b1553 := by rw [ex1554]; exact f1545.1 ▸ f1545.2.1
      have f1558 := f1545.ext E1555
      have f1559 := f1546.ext E1555
      have f1560 := f1547.ext E1555
      have f1561 := f1548.ext E1555
      have f1562 := own_AL0_ext f1549 E1555
      have f1563 := f1550.ext E1555
      have f1564 := own_AL1_ext P1538 E1555
      have f1565 := E1551.ext E1555
      have F_area_b1553 : Fld Z h1552 b1553 "com/example/plumbline/plumbline/Grades" "area" "Ljava/util/List;" .null := D1557 (Or.inr (wd hw 148 rfl)) (ty := (.object "java/util/List")) (by decide)
      have F_total_b1553 : Fld Z h1552 b1553 "com/example/plumbline/plumbline/Grades" "total" "Ljava/util/List;" .null := D1557 (Or.inr (wd hw 215 rfl)) (ty := (.object "java/util/List")) (by decide)
      refine g_dup C (pc' := 152) at_151 rfl rfl rfl ?_
      refine g_aload C (pc' := 154) at_152 rfl rfl rfl ?_
      refine g_aload C (pc' := 156) at_154 rfl rfl rfl ?_
      refine g_special C (pc' := 159) (k' := 10) (n' := 33) (argsL := [(.ref b1468), (.ref b1486)]) (rest := [(.ref b1553)]) (wd hw 116 rfl) (wd hw 117 rfl) (wd hw 115 rfl) (wd hw 118 rfl) (by decide) rfl at_156 pd_12 rfl rfl rfl (gsI_01 l Z a0 hw n0 h1552 f1558 s_DEF s_EL s_EA s_EM cs mr H b1553 b1413 ge_b1553 b1468 (0 : Int32) b1486 ed1539 kE1540 ((0 : Int32) + (1 : Int32)) A1556 F_area_b1553 F_total_b1553 f1559 f1562 f1564 (Ne.symm ne_b1468_b1553) (Ne.symm ne_b1486_b1553) (Ne.symm ne_ed1539_b1553)) (Nat.le_of_ble_eq_true rfl) (Nat.le_of_ble_eq_true rfl) (Nat.le_of_ble_eq_true rfl) (Nat.le_of_ble_eq_true rfl) rfl rfl rfl (fun v1570 h1569 q1571 => ?_)
      obtain ⟨rfl, K1566, E1567, F1568⟩ := q1571
      have f1572 := f1558.keep K1566 (allS ge_b1553 all0)
      have f1573 := f1559.keep K1566
      have f1574 := f1560.keep K1566
      have f1575 := f1561.keep K1566
      have f1576 := own_AL0_keep f1562 K1566 (ninS ne_b1468_b1553 nin0)
      have f1577 := f1563.keep K1566
      have f1578 := own_AL1_keep f1564 K1566 (ninS ne_b1486_b1553 nin0) (ninS ne_ed1539_b1553 nin0)
      have f1579 := f1565.keep K1566
      have f1580 := A1556.keep K1566
      show G w _ h1569 10 33 159 #[.val (.int p0), .val (.int p1), .val (.int p2), .val (.int (0 : Int32)), .val (.int (1 : Int32)), .val (.ref b1413), .val (.ref b1468), .val (.ref b1486), .unset, .unset] [(.ref b1553)]
      refine g_astore C (pc' := 161) (Ls' := #[.val (.int p0), .val (.int p1), .val (.int p2), .val (.int (0 : Int32)), .val (.int (1 : Int32)), .val (.ref b1413), .val (.ref b1468), .val (.ref b1486), .val (.ref b1553), .unset]) at_159 rfl rfl rfl rfl ?_
      refine g_iloadN C (pc' := 162) at_161 rfl rfl ?_
      refine g_ifY C (pc' := 169) at_162 rfl (by decide) (by decide) rfl ?_
      refine g_iconst C (pc' := 170) (v := (0 : Int32)) at_169 (by decide) rfl ?_
      refine g_istore C (pc' := 172) (Ls' := #[.val (.int p0), .val (.int p1), .val (.int p2), .val (.int (0 : Int32)), .val (.int (1 : Int32)), .val (.ref b1413), .val (.ref b1468), .val (.ref b1486), .val (.ref b1553), .val (.int (0 : Int32))]) at_170 rfl rfl rfl ?_
      refine g_aload C (pc' := 174) at_172 rfl rfl rfl ?_
      refine g_virtual C (pc' := 177) (k' := 10) (n' := 33) (argsL := []) (rest := []) (wd hw 216 rfl) (wd hw 217 rfl) (nfSel (wd hw 219 rfl)) (wd hw 219 rfl) (wd hw 218 rfl) (wd hw 115 rfl) (wd hw 220 rfl) (by decide) at_174 pd_14 rfl rfl rfl E1567 (gr_0 l Z a0 hw n0 h1569 f1572 s_DEF s_EL s_EA s_EM cs mr H b1553 E1567 F1568) (Nat.le_of_ble_eq_true rfl) (Nat.le_of_ble_eq_true rfl) (Nat.le_of_ble_eq_true rfl) (Nat.le_of_ble_eq_true rfl) rfl rfl rfl (fun v1582 h1581 q1583 => ?_)
      obtain ⟨rfl, eh1581⟩ := q1583
      subst h1581
      show G w _ h1569 10 33 177 #[.val (.int p0), .val (.int p1), .val (.int p2), .val (.int (0 : Int32)), .val (.int (1 : Int32)), .val (.ref b1413), .val (.ref b1468), .val (.ref b1486), .val (.ref b1553), .val (.int (0 : Int32))] [(.int (0 : Int32))]
      refine g_iload C (pc' := 179) at_177 rfl rfl ?_
      refine g_icN C (pc' := 182) at_179 rfl (by decide) rfl ?_
      refine g_iconst C (pc' := 183) (v := (1 : Int32)) at_182 (by decide) rfl ?_
      refine g_goto C (pc' := 187) at_183 (by decide) rfl ?_
      exact g_zreturn C at_187 rfl rfl (Nat.le_of_ble_eq_true rfl) (Nat.le_of_ble_eq_true rfl) (rfl)
    · rw [e4]
      refine g_iload C (pc' := 103) at_101 rfl rfl ?_
      refine g_ifN C (pc' := 106) at_103 rfl (by decide) rfl ?_
      refine g_aload C (pc' := 108) at_106 rfl rfl rfl ?_
      refine g_aload C (pc' := 110) at_108 rfl rfl rfl ?_
      refine g_interface C (pc' := 115) (k' := 7) (n' := 28) (argsL := [(.ref b1413)]) (rest := []) (wd hw 78 rfl) (wd hw 79 rfl) (wd hw 80 rfl) rfl (wd hw 81 rfl) (wd hw 82 rfl) (wd hw 83 rfl) (wd hw 84 rfl) (wd hw 85 rfl) (wd hw 56 rfl) (wd hw 86 rfl) (by decide) at_110 pd_7 rfl rfl rfl f1506 (add_0 l Z a0 hw n0 h1498 f1501 s_DEF s_EL s_EA s_EM cs mr H b1486 (0 : Int32) b1413 f1502 P1497) (Nat.le_of_ble_eq_true rfl) (Nat.le_of_ble_eq_true rfl) (Nat.le_of_ble_eq_true rfl) (Nat.le_of_ble_eq_true rfl) rfl rfl rfl (fun v1590 h1589 q1591 => ?_)
      obtain ⟨rfl, K1584, ed1586, kE1587, hg1588, P1585⟩ := q1591
      have ne_b1413_ed1586 : b1413 ≠ ed1586 := Nat.ne_of_lt (Nat.lt_of_lt_of_le f1502.lt hg1588)
      have ne_b1420_ed1586 : b1420 ≠ ed1586 := Nat.ne_of_lt (Nat.lt_of_lt_of_le f1503.lt hg1588)
      have ne_b1468_ed1586 : b1468 ≠ ed1586 := Nat.ne_of_lt (Nat.lt_of_lt_of_le f1504.lt hg1588)
      have ne_b1486_ed1586 : b1486 ≠ ed1586 := Nat.ne_of_lt (Nat.lt_of_lt_of_le f1506.lt hg1588)
      have ge_ed1586 : n0 ≤ ed1586 := Nat.le_trans (f1501.1 ▸ f1501.2.1) hg1588
      have f1592 := f1501.keep K1584 (allS ge_b1486 all0)
      have f1593 := f1502.keep K1584
      have f1594 := f1503.keep K1584
      have f1595 := f1504.keep K1584
      have f1596 := own_AL0_keep f1505 K1584 (ninS ne_b1468_b1486 nin0)
      have f1597 := f1506.keep K1584
      have E1598 := P1585.2.2.2.2.2.1
      show G w _ h1589 7 28 115 #[.val (.int p0), .val (.int p1), .val (.int p2), .val (.int (0 : Int32)), .val (.int (2 : Int32)), .val (.ref b1413), .val (.ref b1468), .val (.ref b1486), .unset, .unset] [(.int (1 : Int32))]
      refine g_pop C (pc' := 116) at_115 rfl rfl rfl ?_
      refine g_iload C (pc' := 118) at_116 rfl rfl ?_
      refine g_iconst C (pc' := 119) (v := (1 : Int32)) at_118 (by decide) rfl ?_
      refine g_icN C (pc' := 122) at_119 rfl (by decide) rfl ?_
      refine g_aload C (pc' := 124) at_122 rfl rfl rfl ?_
      refine g_aload C (pc' := 126) at_124 rfl rfl rfl ?_
      refine g_interface C (pc' := 131) (k' := 7) (n' := 28) (argsL := [(.ref b1413)]) (rest := []) (wd hw 78 rfl) (wd hw 79 rfl) (wd hw 80 rfl) rfl (wd hw 81 rfl) (wd hw 82 rfl) (wd hw 83 rfl) (wd hw 84 rfl) (wd hw 85 rfl) (wd hw 56 rfl) (wd hw 86 rfl) (by decide) at_126 pd_7 rfl rfl rfl f1597 (add_1 l Z a0 hw n0 h1589 f1592 s_DEF s_EL s_EA s_EM cs mr H b1486 ed1586 kE1587 ((0 : Int32) + (1 : Int32)) b1413 b1413 f1593 P1585) (Nat.le_of_ble_eq_true rfl) (Nat.le_of_ble_eq_true rfl) (Nat.le_of_ble_eq_true rfl) (Nat.le_of_ble_eq_true rfl) rfl rfl rfl (fun v1602 h1601 q1603 => ?_)
      obtain ⟨rfl, K1599, P1600⟩ := q1603
      have f1604 := f1592.keep K1599 (allS ge_b1486 (allS ge_ed1586 all0))
      have f1605 := f1593.keep K1599
      have f1606 := f1594.keep K1599
      have f1607 := f1595.keep K1599
      have f1608 := own_AL0_keep f1596 K1599 (ninS ne_b1468_b1486 (ninS ne_b1468_ed1586 nin0))
      have f1609 := f1597.keep K1599
      have f1610 := E1598.keep K1599
      show G w _ h1601 7 28 131 #[.val (.int p0), .val (.int p1), .val (.int p2), .val (.int (0 : Int32)), .val (.int (2 : Int32)), .val (.ref b1413), .val (.ref b1468), .val (.ref b1486), .unset, .unset] [(.int (1 : Int32))]
      refine g_pop C (pc' := 132) at_131 rfl rfl rfl ?_
      refine g_iload C (pc' := 134) at_132 rfl rfl ?_
      refine g_iconst C (pc' := 135) (v := (2 : Int32)) at_134 (by decide) rfl ?_
      refine g_icY C (pc' := 148) at_135 rfl (by decide) (by decide) rfl ?_
      refine g_new C (pc' := 151) (k' := 8) (n' := 30) (wd hw 113 rfl) (wd hw 114 rfl) (wd hw 115 rfl) at_148 (by decide) (by decide) rfl rfl rfl (fun h1611 b1612 ex1613 E1614 A1615 D1616 => ?_)
      have ne_b1413_b1612 : b1413 ≠ b1612 := Nat.ne_of_lt (by rw [ex1613]; exact f1605.lt)
      have ne_b1420_b1612 : b1420 ≠ b1612 := Nat.ne_of_lt (by rw [ex1613]; exact f1606.lt)
      have ne_b1468_b1612 : b1468 ≠ b1612 := Nat.ne_of_lt (by rw [ex1613]; exact f1607.lt)
      have ne_b1486_b1612 : b1486 ≠ b1612 := Nat.ne_of_lt (by rw [ex1613]; exact f1609.lt)
      have ne_ed1586_b1612 : ed1586 ≠ b1612 := Nat.ne_of_lt (by rw [ex1613]; exact f1610.lt)
      have ge_b1612 : n0 ≤ b1612 := by rw [ex1613]; exact f1604.1 ▸ f1604.2.1
      have f1617 := f1604.ext E1614
      have f1618 := f1605.ext E1614
      have f1619 := f1606.ext E1614
      have f1620 := f1607.ext E1614
      have f1621 := own_AL0_ext f1608 E1614
      have f1622 := f1609.ext E1614
      have f1623 := f1610.ext E1614
      have f1624 := own_AL1_ext P1600 E1614
      have F_area_b1612 : Fld Z h1611 b1612 "com/example/plumbline/plumbline/Grades" "area" "Ljava/util/List;" .null := D1616 (Or.inr (wd hw 148 rfl)) (ty := (.object "java/util/List")) (by decide)
      have F_total_b1612 : Fld Z h1611 b1612 "com/example/plumbline/plumbline/Grades" "total" "Ljava/util/List;" .null := D1616 (Or.inr (wd hw 215 rfl)) (ty := (.object "java/util/List")) (by decide)
      refine g_dup C (pc' := 152) at_151 rfl rfl rfl ?_
      refine g_aload C (pc' := 154) at_152 rfl rfl rfl ?_
      refine g_aload C (pc' := 156) at_154 rfl rfl rfl ?_
      refine g_special C (pc' := 159) (k' := 10) (n' := 34) (argsL := [(.ref b1468), (.ref b1486)]) (rest := [(.ref b1612)]) (wd hw 116 rfl) (wd hw 117 rfl) (wd hw 115 rfl) (wd hw 118 rfl) (by decide) rfl at_156 pd_12 rfl rfl rfl (gsI_02 l Z a0 hw n0 h1611 f1617 s_DEF s_EL s_EA s_EM cs mr H b1612 b1413 ge_b1612 b1468 (0 : Int32) b1486 ed1586 kE1587 (((0 : Int32) + (1 : Int32)) + (1 : Int32)) A1615 F_area_b1612 F_total_b1612 f1618 f1621 f1624 (Ne.symm ne_b1468_b1612) (Ne.symm ne_b1486_b1612) (Ne.symm ne_ed1586_b1612)) (Nat.le_of_ble_eq_true rfl) (Nat.le_of_ble_eq_true rfl) (Nat.le_of_ble_eq_true rfl) (Nat.le_of_ble_eq_true rfl) rfl rfl rfl (fun v1629 h1628 q1630 => ?_)
      obtain ⟨rfl, K1625, E1626, F1627⟩ := q1630
      have f1631 := f1617.keep K1625 (allS ge_b1612 all0)
      have f1632 := f1618.keep K1625
      have f1633 := f1619.keep K1625
      have f1634 := f1620.keep K1625
      have f1635 := own_AL0_keep f1621 K1625 (ninS ne_b1468_b1612 nin0)
      have f1636 := f1622.keep K1625
      have f1637 := f1623.keep K1625
      have f1638 := own_AL1_keep f1624 K1625 (ninS ne_b1486_b1612 nin0) (ninS ne_ed1586_b1612 nin0)
      have f1639 := A1615.keep K1625
      show G w _ h1628 10 34 159 #[.val (.int p0), .val (.int p1), .val (.int p2), .val (.int (0 : Int32)), .val (.int (2 : Int32)), .val (.ref b1413), .val (.ref b1468), .val (.ref b1486), .unset, .unset] [(.ref b1612)]
      refine g_astore C (pc' := 161) (Ls' := #[.val (.int p0), .val (.int p1), .val (.int p2), .val (.int (0 : Int32)), .val (.int (2 : Int32)), .val (.ref b1413), .val (.ref b1468), .val (.ref b1486), .val (.ref b1612), .unset]) at_159 rfl rfl rfl rfl ?_
      refine g_iloadN C (pc' := 162) at_161 rfl rfl ?_
      refine g_ifY C (pc' := 169) at_162 rfl (by decide) (by decide) rfl ?_
      refine g_iconst C (pc' := 170) (v := (0 : Int32)) at_169 (by decide) rfl ?_
      refine g_istore C (pc' := 172) (Ls' := #[.val (.int p0), .val (.int p1), .val (.int p2), .val (.int (0 : Int32)), .val (.int (2 : Int32)), .val (.ref b1413), .val (.ref b1468), .val (.ref b1486), .val (.ref b1612), .val (.int (0 : Int32))]) at_170 rfl rfl rfl ?_
      refine g_aload C (pc' := 174) at_172 rfl rfl rfl ?_
      refine g_virtual C (pc' := 177) (k' := 10) (n' := 34) (argsL := []) (rest := []) (wd hw 216 rfl) (wd hw 217 rfl) (nfSel (wd hw 219 rfl)) (wd hw 219 rfl) (wd hw 218 rfl) (wd hw 115 rfl) (wd hw 220 rfl) (by decide) at_174 pd_14 rfl rfl rfl E1626 (gr_0 l Z a0 hw n0 h1628 f1631 s_DEF s_EL s_EA s_EM cs mr H b1612 E1626 F1627) (Nat.le_of_ble_eq_true rfl) (Nat.le_of_ble_eq_true rfl) (Nat.le_of_ble_eq_true rfl) (Nat.le_of_ble_eq_true rfl) rfl rfl rfl (fun v1641 h1640 q1642 => ?_)
      obtain ⟨rfl, eh1640⟩ := q1642
      subst h1640
      show G w _ h1628 10 34 177 #[.val (.int p0), .val (.int p1), .val (.int p2), .val (.int (0 : Int32)), .val (.int (2 : Int32)), .val (.ref b1413), .val (.ref b1468), .val (.ref b1486), .val (.ref b1612), .val (.int (0 : Int32))] [(.int (0 : Int32))]
      refine g_iload C (pc' := 179) at_177 rfl rfl ?_
      refine g_icN C (pc' := 182) at_179 rfl (by decide) rfl ?_
      refine g_iconst C (pc' := 183) (v := (1 : Int32)) at_182 (by decide) rfl ?_
      refine g_goto C (pc' := 187) at_183 (by decide) rfl ?_
      exact g_zreturn C at_187 rfl rfl (Nat.le_of_ble_eq_true rfl) (Nat.le_of_ble_eq_true rfl) (rfl)
    · rw [e4]
      refine g_iload C (pc' := 103) at_101 rfl rfl ?_
      refine g_ifN C (pc' := 106) at_103 rfl (by decide) rfl ?_
      refine g_aload C (pc' := 108) at_106 rfl rfl rfl ?_
      refine g_aload C (pc' := 110) at_108 rfl rfl rfl ?_
      refine g_interface C (pc' := 115) (k' := 7) (n' := 28) (argsL := [(.ref b1413)]) (rest := []) (wd hw 78 rfl) (wd hw 79 rfl) (wd hw 80 rfl) rfl (wd hw 81 rfl) (wd hw 82 rfl) (wd hw 83 rfl) (wd hw 84 rfl) (wd hw 85 rfl) (wd hw 56 rfl) (wd hw 86 rfl) (by decide) at_110 pd_7 rfl rfl rfl f1506 (add_0 l Z a0 hw n0 h1498 f1501 s_DEF s_EL s_EA s_EM cs mr H b1486 (0 : Int32) b1413 f1502 P1497) (Nat.le_of_ble_eq_true rfl) (Nat.le_of_ble_eq_true rfl) (Nat.le_of_ble_eq_true rfl) (Nat.le_of_ble_eq_true rfl) rfl rfl rfl (fun v1649 h1648 q1650 => ?_)
      obtain ⟨rfl, K1643, ed1645, kE1646, hg1647, P1644⟩ := q1650
      have ne_b1413_ed1645 : b1413 ≠ ed1645 := Nat.ne_of_lt (Nat.lt_of_lt_of_le f1502.lt hg1647)
      have ne_b1420_ed1645 : b1420 ≠ ed1645 := Nat.ne_of_lt (Nat.lt_of_lt_of_le f1503.lt hg1647)
      have ne_b1468_ed1645 : b1468 ≠ ed1645 := Nat.ne_of_lt (Nat.lt_of_lt_of_le f1504.lt hg1647)
      have ne_b1486_ed1645 : b1486 ≠ ed1645 := Nat.ne_of_lt (Nat.lt_of_lt_of_le f1506.lt hg1647)
      have ge_ed1645 : n0 ≤ ed1645 := Nat.le_trans (f1501.1 ▸ f1501.2.1) hg1647
      have f1651 := f1501.keep K1643 (allS ge_b1486 all0)
      have f1652 := f1502.keep K1643
      have f1653 := f1503.keep K1643
      have f1654 := f1504.keep K1643
      have f1655 := own_AL0_keep f1505 K1643 (ninS ne_b1468_b1486 nin0)
      have f1656 := f1506.keep K1643
      have E1657 := P1644.2.2.2.2.2.1
      show G w _ h1648 7 28 115 #[.val (.int p0), .val (.int p1), .val (.int p2), .val (.int (0 : Int32)), .val (.int (3 : Int32)), .val (.ref b1413), .val (.ref b1468), .val (.ref b1486), .unset, .unset] [(.int (1 : Int32))]
      refine g_pop C (pc' := 116) at_115 rfl rfl rfl ?_
      refine g_iload C (pc' := 118) at_116 rfl rfl ?_
      refine g_iconst C (pc' := 119) (v := (1 : Int32)) at_118 (by decide) rfl ?_
      refine g_icN C (pc' := 122) at_119 rfl (by decide) rfl ?_
      refine g_aload C (pc' := 124) at_122 rfl rfl rfl ?_
      refine g_aload C (pc' := 126) at_124 rfl rfl rfl ?_
      refine g_interface C (pc' := 131) (k' := 7) (n' := 28) (argsL := [(.ref b1413)]) (rest := []) (wd hw 78 rfl) (wd hw 79 rfl) (wd hw 80 rfl) rfl (wd hw 81 rfl) (wd hw 82 rfl) (wd hw 83 rfl) (wd hw 84 rfl) (wd hw 85 rfl) (wd hw 56 rfl) (wd hw 86 rfl) (by decide) at_126 pd_7 rfl rfl rfl f1656 (add_1 l Z a0 hw n0 h1648 f1651 s_DEF s_EL s_EA s_EM cs mr H b1486 ed1645 kE1646 ((0 : Int32) + (1 : Int32)) b1413 b1413 f1652 P1644) (Nat.le_of_ble_eq_true rfl) (Nat.le_of_ble_eq_true rfl) (Nat.le_of_ble_eq_true rfl) (Nat.le_of_ble_eq_true rfl) rfl rfl rfl (fun v1661 h1660 q1662 => ?_)
      obtain ⟨rfl, K1658, P1659⟩ := q1662
      have f1663 := f1651.keep K1658 (allS ge_b1486 (allS ge_ed1645 all0))
      have f1664 := f1652.keep K1658
      have f1665 := f1653.keep K1658
      have f1666 := f1654.keep K1658
      have f1667 := own_AL0_keep f1655 K1658 (ninS ne_b1468_b1486 (ninS ne_b1468_ed1645 nin0))
      have f1668 := f1656.keep K1658
      have f1669 := E1657.keep K1658
      show G w _ h1660 7 28 131 #[.val (.int p0), .val (.int p1), .val (.int p2), .val (.int (0 : Int32)), .val (.int (3 : Int32)), .val (.ref b1413), .val (.ref b1468), .val (.ref b1486), .unset, .unset] [(.int (1 : Int32))]
      refine g_pop C (pc' := 132) at_131 rfl rfl rfl ?_
      refine g_iload C (pc' := 134) at_132 rfl rfl ?_
      refine g_iconst C (pc' := 135) (v := (2 : Int32)) at_134 (by decide) rfl ?_
      refine g_icN C (pc' := 138) at_135 rfl (by decide) rfl ?_
      refine g_aload C (pc' := 140) at_138 rfl rfl rfl ?_
      refine g_aload C (pc' := 142) at_140 rfl rfl rfl ?_
      refine g_interface C (pc' := 147) (k' := 7) (n' := 28) (argsL := [(.ref b1413)]) (rest := []) (wd hw 78 rfl) (wd hw 79 rfl) (wd hw 80 rfl) rfl (wd hw 81 rfl) (wd hw 82 rfl) (wd hw 83 rfl) (wd hw 84 rfl) (wd hw 85 rfl) (wd hw 56 rfl) (wd hw 86 rfl) (by decide) at_142 pd_7 rfl rfl rfl f1668 (add_2 l Z a0 hw n0 h1660 f1663 s_DEF s_EL s_EA s_EM cs mr H b1486 ed1645 kE1646 (((0 : Int32) + (1 : Int32)) + (1 : Int32)) b1413 b1413 b1413 f1664 P1659) (Nat.le_of_ble_eq_true rfl) (Nat.le_of_ble_eq_true rfl) (Nat.le_of_ble_eq_true rfl) (Nat.le_of_ble_eq_true rfl) rfl rfl rfl (fun v1673 h1672 q1674 => ?_)
      obtain ⟨rfl, K1670, P1671⟩ := q1674
      have f1675 := f1663.keep K1670 (allS ge_b1486 (allS ge_ed1645 all0))
      have f1676 := f1664.keep K1670
      have f1677 := f1665.keep K1670
      have f1678 := f1666.keep K1670
      have f1679 := own_AL0_keep f1667 K1670 (ninS ne_b1468_b1486 (ninS ne_b1468_ed1645 nin0))
      have f1680 := f1668.keep K1670
      have f1681 := f1669.keep K1670
      show G w _ h1672 7 28 147 #[.val (.int p0), .val (.int p1), .val (.int p2), .val (.int (0 : Int32)), .val (.int (3 : Int32)), .val (.ref b1413), .val (.ref b1468), .val (.ref b1486), .unset, .unset] [(.int (1 : Int32))]
      refine g_pop C (pc' := 148) at_147 rfl rfl rfl ?_
      refine g_new C (pc' := 151) (k' := 8) (n' := 30) (wd hw 113 rfl) (wd hw 114 rfl) (wd hw 115 rfl) at_148 (by decide) (by decide) rfl rfl rfl (fun h1682 b1683 ex1684 E1685 A1686 D1687 => ?_)
      have ne_b1413_b1683 : b1413 ≠ b1683 := Nat.ne_of_lt (by rw [ex1684]; exact f1676.lt)
      have ne_b1420_b1683 : b1420 ≠ b1683 := Nat.ne_of_lt (by rw [ex1684]; exact f1677.lt)
      have ne_b1468_b1683 : b1468 ≠ b1683 := Nat.ne_of_lt (by rw [ex1684]; exact f1678.lt)
      have ne_b1486_b1683 : b1486 ≠ b1683 := Nat.ne_of_lt (by rw [ex1684]; exact f1680.lt)
      have ne_ed1645_b1683 : ed1645 ≠ b1683 := Nat.ne_of_lt (by rw [ex1684]; exact f1681.lt)
      have ge_b1683 : n0 ≤ b1683 := by rw [ex1684]; exact f1675.1 ▸ f1675.2.1
      have f1688 := f1675.ext E1685
      have f1689 := f1676.ext E1685
      have f1690 := f1677.ext E1685
      have f1691 := f1678.ext E1685
      have f1692 := own_AL0_ext f1679 E1685
      have f1693 := f1680.ext E1685
      have f1694 := f1681.ext E1685
      have f1695 := own_AL1_ext P1671 E1685
      have F_area_b1683 : Fld Z h1682 b1683 "com/example/plumbline/plumbline/Grades" "area" "Ljava/util/List;" .null := D1687 (Or.inr (wd hw 148 rfl)) (ty := (.object "java/util/List")) (by decide)
      have F_total_b1683 : Fld Z h1682 b1683 "com/example/plumbline/plumbline/Grades" "total" "Ljava/util/List;" .null := D1687 (Or.inr (wd hw 215 rfl)) (ty := (.object "java/util/List")) (by decide)
      refine g_dup C (pc' := 152) at_151 rfl rfl rfl ?_
      refine g_aload C (pc' := 154) at_152 rfl rfl rfl ?_
      refine g_aload C (pc' := 156) at_154 rfl rfl rfl ?_
      refine g_special C (pc' := 159) (k' := 11) (n' := 38) (argsL := [(.ref b1468), (.ref b1486)]) (rest := [(.ref b1683)]) (wd hw 116 rfl) (wd hw 117 rfl) (wd hw 115 rfl) (wd hw 118 rfl) (by decide) rfl at_156 pd_12 rfl rfl rfl (gsI_03 l Z a0 hw n0 h1682 f1688 s_DEF s_EL s_EA s_EM cs mr H b1683 b1413 ge_b1683 b1468 (0 : Int32) b1486 ed1645 kE1646 ((((0 : Int32) + (1 : Int32)) + (1 : Int32)) + (1 : Int32)) A1686 F_area_b1683 F_total_b1683 f1689 f1692 f1695 (Ne.symm ne_b1468_b1683) (Ne.symm ne_b1486_b1683) (Ne.symm ne_ed1645_b1683)) (Nat.le_of_ble_eq_true rfl) (Nat.le_of_ble_eq_true rfl) (Nat.le_of_ble_eq_true rfl) (Nat.le_of_ble_eq_true rfl) rfl rfl rfl (fun v1700 h1699 q1701 => ?_)
      obtain ⟨rfl, K1696, E1697, F1698⟩ := q1701
      have f1702 := f1688.keep K1696 (allS ge_b1683 all0)
      have f1703 := f1689.keep K1696
      have f1704 := f1690.keep K1696
      have f1705 := f1691.keep K1696
      have f1706 := own_AL0_keep f1692 K1696 (ninS ne_b1468_b1683 nin0)
      have f1707 := f1693.keep K1696
      have f1708 := f1694.keep K1696
      have f1709 := own_AL1_keep f1695 K1696 (ninS ne_b1486_b1683 nin0) (ninS ne_ed1645_b1683 nin0)
      have f1710 := A1686.keep K1696
      show G w _ h1699 11 38 159 #[.val (.int p0), .val (.int p1), .val (.int p2), .val (.int (0 : Int32)), .val (.int (3 : Int32)), .val (.ref b1413), .val (.ref b1468), .val (.ref b1486), .unset, .unset] [(.ref b1683)]
      refine g_astore C (pc' := 161) (Ls' := #[.val (.int p0), .val (.int p1), .val (.int p2), .val (.int (0 : Int32)), .val (.int (3 : Int32)), .val (.ref b1413), .val (.ref b1468), .val (.ref b1486), .val (.ref b1683), .unset]) at_159 rfl rfl rfl rfl ?_
      refine g_iloadN C (pc' := 162) at_161 rfl rfl ?_
      refine g_ifY C (pc' := 169) at_162 rfl (by decide) (by decide) rfl ?_
      refine g_iconst C (pc' := 170) (v := (0 : Int32)) at_169 (by decide) rfl ?_
      refine g_istore C (pc' := 172) (Ls' := #[.val (.int p0), .val (.int p1), .val (.int p2), .val (.int (0 : Int32)), .val (.int (3 : Int32)), .val (.ref b1413), .val (.ref b1468), .val (.ref b1486), .val (.ref b1683), .val (.int (0 : Int32))]) at_170 rfl rfl rfl ?_
      refine g_aload C (pc' := 174) at_172 rfl rfl rfl ?_
      refine g_virtual C (pc' := 177) (k' := 11) (n' := 38) (argsL := []) (rest := []) (wd hw 216 rfl) (wd hw 217 rfl) (nfSel (wd hw 219 rfl)) (wd hw 219 rfl) (wd hw 218 rfl) (wd hw 115 rfl) (wd hw 220 rfl) (by decide) at_174 pd_14 rfl rfl rfl E1697 (gr_0 l Z a0 hw n0 h1699 f1702 s_DEF s_EL s_EA s_EM cs mr H b1683 E1697 F1698) (Nat.le_of_ble_eq_true rfl) (Nat.le_of_ble_eq_true rfl) (Nat.le_of_ble_eq_true rfl) (Nat.le_of_ble_eq_true rfl) rfl rfl rfl (fun v1712 h1711 q1713 => ?_)
      obtain ⟨rfl, eh1711⟩ := q1713
      subst h1711
      show G w _ h1699 11 38 177 #[.val (.int p0), .val (.int p1), .val (.int p2), .val (.int (0 : Int32)), .val (.int (3 : Int32)), .val (.ref b1413), .val (.ref b1468), .val (.ref b1486), .val (.ref b1683), .val (.int (0 : Int32))] [(.int (0 : Int32))]
      refine g_iload C (pc' := 179) at_177 rfl rfl ?_
      refine g_icN C (pc' := 182) at_179 rfl (by decide) rfl ?_
      refine g_iconst C (pc' := 183) (v := (1 : Int32)) at_182 (by decide) rfl ?_
      refine g_goto C (pc' := 187) at_183 (by decide) rfl ?_
      exact g_zreturn C at_187 rfl rfl (Nat.le_of_ble_eq_true rfl) (Nat.le_of_ble_eq_true rfl) (rfl)
  · rw [e4]
    refine g_iloadN C (pc' := 58) at_57 rfl rfl ?_
    refine g_ifN C (pc' := 61) at_58 rfl (by decide) rfl ?_
    refine g_aload C (pc' := 63) at_61 rfl rfl rfl ?_
    refine g_aload C (pc' := 65) at_63 rfl rfl rfl ?_
    refine g_interface C (pc' := 70) (k' := 7) (n' := 28) (argsL := [(.ref b1413)]) (rest := []) (wd hw 78 rfl) (wd hw 79 rfl) (wd hw 80 rfl) rfl (wd hw 81 rfl) (wd hw 82 rfl) (wd hw 83 rfl) (wd hw 84 rfl) (wd hw 85 rfl) (wd hw 56 rfl) (wd hw 86 rfl) (by decide) at_65 pd_7 rfl rfl rfl f1504 (add_0 l Z a0 hw n0 h1498 f1501 s_DEF s_EL s_EA s_EM cs mr H b1468 (0 : Int32) b1413 f1502 f1505) (Nat.le_of_ble_eq_true rfl) (Nat.le_of_ble_eq_true rfl) (Nat.le_of_ble_eq_true rfl) (Nat.le_of_ble_eq_true rfl) rfl rfl rfl (fun v1720 h1719 q1721 => ?_)
    obtain ⟨rfl, K1714, ed1716, kE1717, hg1718, P1715⟩ := q1721
    have ne_b1413_ed1716 : b1413 ≠ ed1716 := Nat.ne_of_lt (Nat.lt_of_lt_of_le f1502.lt hg1718)
    have ne_b1420_ed1716 : b1420 ≠ ed1716 := Nat.ne_of_lt (Nat.lt_of_lt_of_le f1503.lt hg1718)
    have ne_b1468_ed1716 : b1468 ≠ ed1716 := Nat.ne_of_lt (Nat.lt_of_lt_of_le f1504.lt hg1718)
    have ne_b1486_ed1716 : b1486 ≠ ed1716 := Nat.ne_of_lt (Nat.lt_of_lt_of_le f1506.lt hg1718)
    have ge_ed1716 : n0 ≤ ed1716 := Nat.le_trans (f1501.1 ▸ f1501.2.1) hg1718
    have f1722 := f1501.keep K1714 (allS ge_b1468 all0)
    have f1723 := f1502.keep K1714
    have f1724 := f1503.keep K1714
    have f1725 := f1504.keep K1714
    have f1726 := f1506.keep K1714
    have f1727 := own_AL0_keep P1497 K1714 (ninS (Ne.symm ne_b1468_b1486) nin0)
    have E1728 := P1715.2.2.2.2.2.1
    show G w _ h1719 7 28 70 #[.val (.int p0), .val (.int p1), .val (.int p2), .val (.int (1 : Int32)), .val (.int (p1 &&& (3 : Int32))), .val (.ref b1413), .val (.ref b1468), .val (.ref b1486), .unset, .unset] [(.int (1 : Int32))]
    refine g_pop C (pc' := 71) at_70 rfl rfl rfl ?_
    refine g_iloadN C (pc' := 72) at_71 rfl rfl ?_
    refine g_iconst C (pc' := 73) (v := (1 : Int32)) at_72 (by decide) rfl ?_
    refine g_icY C (pc' := 86) at_73 rfl (by decide) (by decide) rfl ?_
    refine g_iloadN C (pc' := 87) at_86 rfl rfl ?_
    refine g_iconst C (pc' := 88) (v := (2 : Int32)) at_87 (by decide) rfl ?_
    refine g_icY C (pc' := 101) at_88 rfl (by decide) (by decide) rfl ?_
    rcases own_and3 p1 with e4 | e4 | e4 | e4
    · rw [e4]
      refine g_iload C (pc' := 103) at_101 rfl rfl ?_
      refine g_ifY C (pc' := 116) at_103 rfl (by decide) (by decide) rfl ?_
      refine g_iload C (pc' := 118) at_116 rfl rfl ?_
      refine g_iconst C (pc' := 119) (v := (1 : Int32)) at_118 (by decide) rfl ?_
      refine g_icY C (pc' := 132) at_119 rfl (by decide) (by decide) rfl ?_
      refine g_iload C (pc' := 134) at_132 rfl rfl ?_
      refine g_iconst C (pc' := 135) (v := (2 : Int32)) at_134 (by decide) rfl ?_
      refine g_icY C (pc' := 148) at_135 rfl (by decide) (by decide) rfl ?_
      refine g_new C (pc' := 151) (k' := 8) (n' := 30) (wd hw 113 rfl) (wd hw 114 rfl) (wd hw 115 rfl) at_148 (by decide) (by decide) rfl rfl rfl (fun h1729 b1730 ex1731 E1732 A1733 D1734 => ?_)
      have ne_b1413_b1730 : b1413 ≠ b1730 := Nat.ne_of_lt (by rw [ex1731]; exact f1723.lt)
      have ne_b1420_b1730 : b1420 ≠ b1730 := Nat.ne_of_lt (by rw [ex1731]; exact f1724.lt)
      have ne_b1468_b1730 : b1468 ≠ b1730 := Nat.ne_of_lt (by rw [ex1731]; exact f1725.lt)
      have ne_b1486_b1730 : b1486 ≠ b1730 := Nat.ne_of_lt (by rw [ex1731]; exact f1726.lt)
      have ne_ed1716_b1730 : ed1716 ≠ b1730 := Nat.ne_of_lt (by rw [ex1731]; exact E1728.lt)
      have ge_b1730 : n0 ≤ b1730 := by rw [ex1731]; exact f1722.1 ▸ f1722.2.1
      have f1735 := f1722.ext E1732
      have f1736 := f1723.ext E1732
      have f1737 := f1724.ext E1732
      have f1738 := f1725.ext E1732
      have f1739 := f1726.ext E1732
      have f1740 := own_AL0_ext f1727 E1732
      have f1741 := own_AL1_ext P1715 E1732
      have f1742 := E1728.ext E1732
      have F_area_b1730 : Fld Z h1729 b1730 "com/example/plumbline/plumbline/Grades" "area" "Ljava/util/List;" .null := D1734 (Or.inr (wd hw 148 rfl)) (ty := (.object "java/util/List")) (by decide)
      have F_total_b1730 : Fld Z h1729 b1730 "com/example/plumbline/plumbline/Grades" "total" "Ljava/util/List;" .null := D1734 (Or.inr (wd hw 215 rfl)) (ty := (.object "java/util/List")) (by decide)
      refine g_dup C (pc' := 152) at_151 rfl rfl rfl ?_
      refine g_aload C (pc' := 154) at_152 rfl rfl rfl ?_
      refine g_aload C (pc' := 156) at_154 rfl rfl rfl ?_
      refine g_special C (pc' := 159) (k' := 10) (n' := 33) (argsL := [(.ref b1468), (.ref b1486)]) (rest := [(.ref b1730)]) (wd hw 116 rfl) (wd hw 117 rfl) (wd hw 115 rfl) (wd hw 118 rfl) (by decide) rfl at_156 pd_12 rfl rfl rfl (gsI_10 l Z a0 hw n0 h1729 f1735 s_DEF s_EL s_EA s_EM cs mr H b1730 b1413 ge_b1730 b1468 ed1716 kE1717 ((0 : Int32) + (1 : Int32)) b1486 (0 : Int32) A1733 F_area_b1730 F_total_b1730 f1736 f1741 f1740 (Ne.symm ne_b1468_b1730) (Ne.symm ne_b1486_b1730) (Ne.symm ne_ed1716_b1730)) (Nat.le_of_ble_eq_true rfl) (Nat.le_of_ble_eq_true rfl) (Nat.le_of_ble_eq_true rfl) (Nat.le_of_ble_eq_true rfl) rfl rfl rfl (fun v1747 h1746 q1748 => ?_)
      obtain ⟨rfl, K1743, E1744, L, F1745, EL⟩ := q1748
      have f1749 := f1735.keep K1743 (allS ge_b1730 all0)
      have f1750 := f1736.keep K1743
      have f1751 := f1737.keep K1743
      have f1752 := f1738.keep K1743
      have f1753 := f1739.keep K1743
      have f1754 := own_AL0_keep f1740 K1743 (ninS ne_b1486_b1730 nin0)
      have f1755 := own_AL1_keep f1741 K1743 (ninS ne_b1468_b1730 nin0) (ninS ne_ed1716_b1730 nin0)
      have f1756 := f1742.keep K1743
      have f1757 := A1733.keep K1743
      show G w _ h1746 10 33 159 #[.val (.int p0), .val (.int p1), .val (.int p2), .val (.int (1 : Int32)), .val (.int (0 : Int32)), .val (.ref b1413), .val (.ref b1468), .val (.ref b1486), .unset, .unset] [(.ref b1730)]
      refine g_astore C (pc' := 161) (Ls' := #[.val (.int p0), .val (.int p1), .val (.int p2), .val (.int (1 : Int32)), .val (.int (0 : Int32)), .val (.ref b1413), .val (.ref b1468), .val (.ref b1486), .val (.ref b1730), .unset]) at_159 rfl rfl rfl rfl ?_
      refine g_iloadN C (pc' := 162) at_161 rfl rfl ?_
      refine g_ifN C (pc' := 165) at_162 rfl (by decide) rfl ?_
      refine g_iconst C (pc' := 166) (v := (1 : Int32)) at_165 (by decide) rfl ?_
      refine g_goto C (pc' := 170) at_166 (by decide) rfl ?_
      refine g_istore C (pc' := 172) (Ls' := #[.val (.int p0), .val (.int p1), .val (.int p2), .val (.int (1 : Int32)), .val (.int (0 : Int32)), .val (.ref b1413), .val (.ref b1468), .val (.ref b1486), .val (.ref b1730), .val (.int (1 : Int32))]) at_170 rfl rfl rfl ?_
      refine g_aload C (pc' := 174) at_172 rfl rfl rfl ?_
      refine g_virtual C (pc' := 177) (k' := 10) (n' := 33) (argsL := []) (rest := []) (wd hw 216 rfl) (wd hw 217 rfl) (nfSel (wd hw 219 rfl)) (wd hw 219 rfl) (wd hw 218 rfl) (wd hw 115 rfl) (wd hw 220 rfl) (by decide) at_174 pd_14 rfl rfl rfl E1744 (gr_1 l Z a0 hw n0 h1746 f1749 s_DEF s_EL s_EA s_EM cs mr H b1730 E1744 L F1745 EL) (Nat.le_of_ble_eq_true rfl) (Nat.le_of_ble_eq_true rfl) (Nat.le_of_ble_eq_true rfl) (Nat.le_of_ble_eq_true rfl) rfl rfl rfl (fun v1759 h1758 q1760 => ?_)
      obtain ⟨rfl, eh1758⟩ := q1760
      subst h1758
      show G w _ h1746 10 33 177 #[.val (.int p0), .val (.int p1), .val (.int p2), .val (.int (1 : Int32)), .val (.int (0 : Int32)), .val (.ref b1413), .val (.ref b1468), .val (.ref b1486), .val (.ref b1730), .val (.int (1 : Int32))] [(.int (1 : Int32))]
      refine g_iload C (pc' := 179) at_177 rfl rfl ?_
      refine g_icN C (pc' := 182) at_179 rfl (by decide) rfl ?_
      refine g_iconst C (pc' := 183) (v := (1 : Int32)) at_182 (by decide) rfl ?_
      refine g_goto C (pc' := 187) at_183 (by decide) rfl ?_
      exact g_zreturn C at_187 rfl rfl (Nat.le_of_ble_eq_true rfl) (Nat.le_of_ble_eq_true rfl) (rfl)
    · rw [e4]
      refine g_iload C (pc' := 103) at_101 rfl rfl ?_
      refine g_ifN C (pc' := 106) at_103 rfl (by decide) rfl ?_
      refine g_aload C (pc' := 108) at_106 rfl rfl rfl ?_
      refine g_aload C (pc' := 110) at_108 rfl rfl rfl ?_
      refine g_interface C (pc' := 115) (k' := 8) (n' := 38) (argsL := [(.ref b1413)]) (rest := []) (wd hw 78 rfl) (wd hw 79 rfl) (wd hw 80 rfl) rfl (wd hw 81 rfl) (wd hw 82 rfl) (wd hw 83 rfl) (wd hw 84 rfl) (wd hw 85 rfl) (wd hw 56 rfl) (wd hw 86 rfl) (by decide) at_110 pd_7 rfl rfl rfl f1726 (add_0 l Z a0 hw n0 h1719 f1722 s_DEF s_EL s_EA s_EM cs mr H b1486 (0 : Int32) b1413 f1723 f1727) (Nat.le_of_ble_eq_true rfl) (Nat.le_of_ble_eq_true rfl) (Nat.le_of_ble_eq_true rfl) (Nat.le_of_ble_eq_true rfl) rfl rfl rfl (fun v1767 h1766 q1768 => ?_)
      obtain ⟨rfl, K1761, ed1763, kE1764, hg1765, P1762⟩ := q1768
      have ne_b1413_ed1763 : b1413 ≠ ed1763 := Nat.ne_of_lt (Nat.lt_of_lt_of_le f1723.lt hg1765)
      have ne_b1420_ed1763 : b1420 ≠ ed1763 := Nat.ne_of_lt (Nat.lt_of_lt_of_le f1724.lt hg1765)
      have ne_b1468_ed1763 : b1468 ≠ ed1763 := Nat.ne_of_lt (Nat.lt_of_lt_of_le f1725.lt hg1765)
      have ne_b1486_ed1763 : b1486 ≠ ed1763 := Nat.ne_of_lt (Nat.lt_of_lt_of_le f1726.lt hg1765)
      have ne_ed1716_ed1763 : ed1716 ≠ ed1763 := Nat.ne_of_lt (Nat.lt_of_lt_of_le E1728.lt hg1765)
      have ge_ed1763 : n0 ≤ ed1763 := Nat.le_trans (f1722.1 ▸ f1722.2.1) hg1765
      have f1769 := f1722.keep K1761 (allS ge_b1486 all0)
      have f1770 := f1723.keep K1761
      have f1771 := f1724.keep K1761
      have f1772 := f1725.keep K1761
      have f1773 := f1726.keep K1761
      have f1774 := own_AL1_keep P1715 K1761 (ninS ne_b1468_b1486 nin0) (ninS (Ne.symm ne_b1486_ed1716) nin0)
      have f1775 := E1728.keep K1761
      have E1776 := P1762.2.2.2.2.2.1
      show G w _ h1766 8 38 115 #[.val (.int p0), .val (.int p1), .val (.int p2), .val (.int (1 : Int32)), .val (.int (1 : Int32)), .val (.ref b1413), .val (.ref b1468), .val (.ref b1486), .unset, .unset] [(.int (1 : Int32))]
      refine g_pop C (pc' := 116) at_115 rfl rfl rfl ?_
      refine g_iload C (pc' := 118) at_116 rfl rfl ?_
      refine g_iconst C (pc' := 119) (v := (1 : Int32)) at_118 (by decide) rfl ?_
      refine g_icY C (pc' := 132) at_119 rfl (by decide) (by decide) rfl ?_
      refine g_iload C (pc' := 134) at_132 rfl rfl ?_
      refine g_iconst C (pc' := 135) (v := (2 : Int32)) at_134 (by decide) rfl ?_
      refine g_icY C (pc' := 148) at_135 rfl (by decide) (by decide) rfl ?_
      refine g_new C (pc' := 151) (k' := 9) (n' := 40) (wd hw 113 rfl) (wd hw 114 rfl) (wd hw 115 rfl) at_148 (by decide) (by decide) rfl rfl rfl (fun h1777 b1778 ex1779 E1780 A1781 D1782 => ?_)
      have ne_b1413_b1778 : b1413 ≠ b1778 := Nat.ne_of_lt (by rw [ex1779]; exact f1770.lt)
      have ne_b1420_b1778 : b1420 ≠ b1778 := Nat.ne_of_lt (by rw [ex1779]; exact f1771.lt)
      have ne_b1468_b1778 : b1468 ≠ b1778 := Nat.ne_of_lt (by rw [ex1779]; exact f1772.lt)
      have ne_b1486_b1778 : b1486 ≠ b1778 := Nat.ne_of_lt (by rw [ex1779]; exact f1773.lt)
      have ne_ed1716_b1778 : ed1716 ≠ b1778 := Nat.ne_of_lt (by rw [ex1779]; exact f1775.lt)
      have ne_ed1763_b1778 : ed1763 ≠ b1778 := Nat.ne_of_lt (by rw [ex1779]; exact E1776.lt)
      have ge_b1778 : n0 ≤ b1778 := by rw [ex1779]; exact f1769.1 ▸ f1769.2.1
      have f1783 := f1769.ext E1780
      have f1784 := f1770.ext E1780
      have f1785 := f1771.ext E1780
      have f1786 := f1772.ext E1780
      have f1787 := f1773.ext E1780
      have f1788 := own_AL1_ext f1774 E1780
      have f1789 := f1775.ext E1780
      have f1790 := own_AL1_ext P1762 E1780
      have f1791 := E1776.ext E1780
      have F_area_b1778 : Fld Z h1777 b1778 "com/example/plumbline/plumbline/Grades" "area" "Ljava/util/List;" .null := D1782 (Or.inr (wd hw 148 rfl)) (ty := (.object "java/util/List")) (by decide)
      have F_total_b1778 : Fld Z h1777 b1778 "com/example/plumbline/plumbline/Grades" "total" "Ljava/util/List;" .null := D1782 (Or.inr (wd hw 215 rfl)) (ty := (.object "java/util/List")) (by decide)
      refine g_dup C (pc' := 152) at_151 rfl rfl rfl ?_
      refine g_aload C (pc' := 154) at_152 rfl rfl rfl ?_
      refine g_aload C (pc' := 156) at_154 rfl rfl rfl ?_
      refine g_special C (pc' := 159) (k' := 13) (n' := 46) (argsL := [(.ref b1468), (.ref b1486)]) (rest := [(.ref b1778)]) (wd hw 116 rfl) (wd hw 117 rfl) (wd hw 115 rfl) (wd hw 118 rfl) (by decide) rfl at_156 pd_12 rfl rfl rfl (gsI_11 l Z a0 hw n0 h1777 f1783 s_DEF s_EL s_EA s_EM cs mr H b1778 b1413 ge_b1778 b1468 ed1716 kE1717 ((0 : Int32) + (1 : Int32)) b1486 ed1763 kE1764 ((0 : Int32) + (1 : Int32)) A1781 F_area_b1778 F_total_b1778 f1784 f1788 f1790 (Ne.symm ne_b1468_b1778) (Ne.symm ne_b1486_b1778) (Ne.symm ne_ed1716_b1778) (Ne.symm ne_ed1763_b1778)) (Nat.le_of_ble_eq_true rfl) (Nat.le_of_ble_eq_true rfl) (Nat.le_of_ble_eq_true rfl) (Nat.le_of_ble_eq_true rfl) rfl rfl rfl (fun v1796 h1795 q1797 => ?_)
      obtain ⟨rfl, K1792, E1793, L, F1794, EL⟩ := q1797
      have f1798 := f1783.keep K1792 (allS ge_b1778 all0)
      have f1799 := f1784.keep K1792
      have f1800 := f1785.keep K1792
      have f1801 := f1786.keep K1792
      have f1802 := f1787.keep K1792
      have f1803 := own_AL1_keep f1788 K1792 (ninS ne_b1468_b1778 nin0) (ninS ne_ed1716_b1778 nin0)
      have f1804 := f1789.keep K1792
      have f1805 := own_AL1_keep f1790 K1792 (ninS ne_b1486_b1778 nin0) (ninS ne_ed1763_b1778 nin0)
      have f1806 := f1791.keep K1792
      have f1807 := A1781.keep K1792
      show G w _ h1795 13 46 159 #[.val (.int p0), .val (.int p1), .val (.int p2), .val (.int (1 : Int32)), .val (.int (1 : Int32)), .val (.ref b1413), .val (.ref b1468), .val (.ref b1486), .unset, .unset] [(.ref b1778)]
      refine g_astore C (pc' := 161) (Ls' := #[.val (.int p0), .val (.int p1), .val (.int p2), .val (.int (1 : Int32)), .val (.int (1 : Int32)), .val (.ref b1413), .val (.ref b1468), .val (.ref b1486), .val (.ref b1778), .unset]) at_159 rfl rfl rfl rfl ?_
      refine g_iloadN C (pc' := 162) at_161 rfl rfl ?_
      refine g_ifN C (pc' := 165) at_162 rfl (by decide) rfl ?_
      refine g_iconst C (pc' := 166) (v := (1 : Int32)) at_165 (by decide) rfl ?_
      refine g_goto C (pc' := 170) at_166 (by decide) rfl ?_
      refine g_istore C (pc' := 172) (Ls' := #[.val (.int p0), .val (.int p1), .val (.int p2), .val (.int (1 : Int32)), .val (.int (1 : Int32)), .val (.ref b1413), .val (.ref b1468), .val (.ref b1486), .val (.ref b1778), .val (.int (1 : Int32))]) at_170 rfl rfl rfl ?_
      refine g_aload C (pc' := 174) at_172 rfl rfl rfl ?_
      refine g_virtual C (pc' := 177) (k' := 13) (n' := 46) (argsL := []) (rest := []) (wd hw 216 rfl) (wd hw 217 rfl) (nfSel (wd hw 219 rfl)) (wd hw 219 rfl) (wd hw 218 rfl) (wd hw 115 rfl) (wd hw 220 rfl) (by decide) at_174 pd_14 rfl rfl rfl E1793 (gr_1 l Z a0 hw n0 h1795 f1798 s_DEF s_EL s_EA s_EM cs mr H b1778 E1793 L F1794 EL) (Nat.le_of_ble_eq_true rfl) (Nat.le_of_ble_eq_true rfl) (Nat.le_of_ble_eq_true rfl) (Nat.le_of_ble_eq_true rfl) rfl rfl rfl (fun v1809 h1808 q1810 => ?_)
      obtain ⟨rfl, eh1808⟩ := q1810
      subst h1808
      show G w _ h1795 13 46 177 #[.val (.int p0), .val (.int p1), .val (.int p2), .val (.int (1 : Int32)), .val (.int (1 : Int32)), .val (.ref b1413), .val (.ref b1468), .val (.ref b1486), .val (.ref b1778), .val (.int (1 : Int32))] [(.int (1 : Int32))]
      refine g_iload C (pc' := 179) at_177 rfl rfl ?_
      refine g_icN C (pc' := 182) at_179 rfl (by decide) rfl ?_
      refine g_iconst C (pc' := 183) (v := (1 : Int32)) at_182 (by decide) rfl ?_
      refine g_goto C (pc' := 187) at_183 (by decide) rfl ?_
      exact g_zreturn C at_187 rfl rfl (Nat.le_of_ble_eq_true rfl) (Nat.le_of_ble_eq_true rfl) (rfl)
    · rw [e4]
      refine g_iload C (pc' := 103) at_101 rfl rfl ?_
      refine g_ifN C (pc' := 106) at_103 rfl (by decide) rfl ?_
      refine g_aload C (pc' := 108) at_106 rfl rfl rfl ?_
      refine g_aload C (pc' := 110) at_108 rfl rfl rfl ?_
      refine g_interface C (pc' := 115) (k' := 8) (n' := 38) (argsL := [(.ref b1413)]) (rest := []) (wd hw 78 rfl) (wd hw 79 rfl) (wd hw 80 rfl) rfl (wd hw 81 rfl) (wd hw 82 rfl) (wd hw 83 rfl) (wd hw 84 rfl) (wd hw 85 rfl) (wd hw 56 rfl) (wd hw 86 rfl) (by decide) at_110 pd_7 rfl rfl rfl f1726 (add_0 l Z a0 hw n0 h1719 f1722 s_DEF s_EL s_EA s_EM cs mr H b1486 (0 : Int32) b1413 f1723 f1727) (Nat.le_of_ble_eq_true rfl) (Nat.le_of_ble_eq_true rfl) (Nat.le_of_ble_eq_true rfl) (Nat.le_of_ble_eq_true rfl) rfl rfl rfl (fun v1817 h1816 q1818 => ?_)
      obtain ⟨rfl, K1811, ed1813, kE1814, hg1815, P1812⟩ := q1818
      have ne_b1413_ed1813 : b1413 ≠ ed1813 := Nat.ne_of_lt (Nat.lt_of_lt_of_le f1723.lt hg1815)
      have ne_b1420_ed1813 : b1420 ≠ ed1813 := Nat.ne_of_lt (Nat.lt_of_lt_of_le f1724.lt hg1815)
      have ne_b1468_ed1813 : b1468 ≠ ed1813 := Nat.ne_of_lt (Nat.lt_of_lt_of_le f1725.lt hg1815)
      have ne_b1486_ed1813 : b1486 ≠ ed1813 := Nat.ne_of_lt (Nat.lt_of_lt_of_le f1726.lt hg1815)
      have ne_ed1716_ed1813 : ed1716 ≠ ed1813 := Nat.ne_of_lt (Nat.lt_of_lt_of_le E1728.lt hg1815)
      have ge_ed1813 : n0 ≤ ed1813 := Nat.le_trans (f1722.1 ▸ f1722.2.1) hg1815
      have f1819 := f1722.keep K1811 (allS ge_b1486 all0)
      have f1820 := f1723.keep K1811
      have f1821 := f1724.keep K1811
      have f1822 := f1725.keep K1811
      have f1823 := f1726.keep K1811
      have f1824 := own_AL1_keep P1715 K1811 (ninS ne_b1468_b1486 nin0) (ninS (Ne.symm ne_b1486_ed1716) nin0)
      have f1825 := E1728.keep K1811
      have E1826 := P1812.2.2.2.2.2.1
      show G w _ h1816 8 38 115 #[.val (.int p0), .val (.int p1), .val (.int p2), .val (.int (1 : Int32)), .val (.int (2 : Int32)), .val (.ref b1413), .val (.ref b1468), .val (.ref b1486), .unset, .unset] [(.int (1 : Int32))]
      refine g_pop C (pc' := 116) at_115 rfl rfl rfl ?_
      refine g_iload C (pc' := 118) at_116 rfl rfl ?_
      refine g_iconst C (pc' := 119) (v := (1 : Int32)) at_118 (by decide) rfl ?_
      refine g_icN C (pc' := 122) at_119 rfl (by decide) rfl ?_
      refine g_aload C (pc' := 124) at_122 rfl rfl rfl ?_
      refine g_aload C (pc' := 126) at_124 rfl rfl rfl ?_
      refine g_interface C (pc' := 131) (k' := 8) (n' := 38) (argsL := [(.ref b1413)]) (rest := []) (wd hw 78 rfl) (wd hw 79 rfl) (wd hw 80 rfl) rfl (wd hw 81 rfl) (wd hw 82 rfl) (wd hw 83 rfl) (wd hw 84 rfl) (wd hw 85 rfl) (wd hw 56 rfl) (wd hw 86 rfl) (by decide) at_126 pd_7 rfl rfl rfl f1823 (add_1 l Z a0 hw n0 h1816 f1819 s_DEF s_EL s_EA s_EM cs mr H b1486 ed1813 kE1814 ((0 : Int32) + (1 : Int32)) b1413 b1413 f1820 P1812) (Nat.le_of_ble_eq_true rfl) (Nat.le_of_ble_eq_true rfl) (Nat.le_of_ble_eq_true rfl) (Nat.le_of_ble_eq_true rfl) rfl rfl rfl (fun v1830 h1829 q1831 => ?_)
      obtain ⟨rfl, K1827, P1828⟩ := q1831
      have f1832 := f1819.keep K1827 (allS ge_b1486 (allS ge_ed1813 all0))
      have f1833 := f1820.keep K1827
      have f1834 := f1821.keep K1827
      have f1835 := f1822.keep K1827
      have f1836 := f1823.keep K1827
      have f1837 := own_AL1_keep f1824 K1827 (ninS ne_b1468_b1486 (ninS ne_b1468_ed1813 nin0)) (ninS (Ne.symm ne_b1486_ed1716) (ninS ne_ed1716_ed1813 nin0))
      have f1838 := f1825.keep K1827
      have f1839 := E1826.keep K1827
      show G w _ h1829 8 38 131 #[.val (.int p0), .val (.int p1), .val (.int p2), .val (.int (1 : Int32)), .val (.int (2 : Int32)), .val (.ref b1413), .val (.ref b1468), .val (.ref b1486), .unset, .unset] [(.int (1 : Int32))]
      refine g_pop C (pc' := 132) at_131 rfl rfl rfl ?_
      refine g_iload C (pc' := 134) at_132 rfl rfl ?_
      refine g_iconst C (pc' := 135) (v := (2 : Int32)) at_134 (by decide) rfl ?_
      refine g_icY C (pc' := 148) at_135 rfl (by decide) (by decide) rfl ?_
      refine g_new C (pc' := 151) (k' := 9) (n' := 40) (wd hw 113 rfl) (wd hw 114 rfl) (wd hw 115 rfl) at_148 (by decide) (by decide) rfl rfl rfl (fun h1840 b1841 ex1842 E1843 A1844 D1845 => ?_)
      have ne_b1413_b1841 : b1413 ≠ b1841 := Nat.ne_of_lt (by rw [ex1842]; exact f1833.lt)
      have ne_b1420_b1841 : b1420 ≠ b1841 := Nat.ne_of_lt (by rw [ex1842]; exact f1834.lt)
      have ne_b1468_b1841 : b1468 ≠ b1841 := Nat.ne_of_lt (by rw [ex1842]; exact f1835.lt)
      have ne_b1486_b1841 : b1486 ≠ b1841 := Nat.ne_of_lt (by rw [ex1842]; exact f1836.lt)
      have ne_ed1716_b1841 : ed1716 ≠ b1841 := Nat.ne_of_lt (by rw [ex1842]; exact f1838.lt)
      have ne_ed1813_b1841 : ed1813 ≠ b1841 := Nat.ne_of_lt (by rw [ex1842]; exact f1839.lt)
      have ge_b1841 : n0 ≤ b1841 := by rw [ex1842]; exact f1832.1 ▸ f1832.2.1
      have f1846 := f1832.ext E1843
      have f1847 := f1833.ext E1843
      have f1848 := f1834.ext E1843
      have f1849 := f1835.ext E1843
      have f1850 := f1836.ext E1843
      have f1851 := own_AL1_ext f1837 E1843
      have f1852 := f1838.ext E1843
      have f1853 := f1839.ext E1843
      have f1854 := own_AL1_ext P1828 E1843
      have F_area_b1841 : Fld Z h1840 b1841 "com/example/plumbline/plumbline/Grades" "area" "Ljava/util/List;" .null := D1845 (Or.inr (wd hw 148 rfl)) (ty := (.object "java/util/List")) (by decide)
      have F_total_b1841 : Fld Z h1840 b1841 "com/example/plumbline/plumbline/Grades" "total" "Ljava/util/List;" .null := D1845 (Or.inr (wd hw 215 rfl)) (ty := (.object "java/util/List")) (by decide)
      refine g_dup C (pc' := 152) at_151 rfl rfl rfl ?_
      refine g_aload C (pc' := 154) at_152 rfl rfl rfl ?_
      refine g_aload C (pc' := 156) at_154 rfl rfl rfl ?_
      refine g_special C (pc' := 159) (k' := 13) (n' := 47) (argsL := [(.ref b1468), (.ref b1486)]) (rest := [(.ref b1841)]) (wd hw 116 rfl) (wd hw 117 rfl) (wd hw 115 rfl) (wd hw 118 rfl) (by decide) rfl at_156 pd_12 rfl rfl rfl (gsI_12 l Z a0 hw n0 h1840 f1846 s_DEF s_EL s_EA s_EM cs mr H b1841 b1413 ge_b1841 b1468 ed1716 kE1717 ((0 : Int32) + (1 : Int32)) b1486 ed1813 kE1814 (((0 : Int32) + (1 : Int32)) + (1 : Int32)) A1844 F_area_b1841 F_total_b1841 f1847 f1851 f1854 (Ne.symm ne_b1468_b1841) (Ne.symm ne_b1486_b1841) (Ne.symm ne_ed1716_b1841) (Ne.symm ne_ed1813_b1841)) (Nat.le_of_ble_eq_true rfl) (Nat.le_of_ble_eq_true rfl) (Nat.le_of_ble_eq_true rfl) (Nat.le_of_ble_eq_true rfl) rfl rfl rfl (fun v1859 h1858 q1860 => ?_)
      obtain ⟨rfl, K1855, E1856, L, F1857, EL⟩ := q1860
      have f1861 := f1846.keep K1855 (allS ge_b1841 all0)
      have f1862 := f1847.keep K1855
      have f1863 := f1848.keep K1855
      have f1864 := f1849.keep K1855
      have f1865 := f1850.keep K1855
      have f1866 := own_AL1_keep f1851 K1855 (ninS ne_b1468_b1841 nin0) (ninS ne_ed1716_b1841 nin0)
      have f1867 := f1852.keep K1855
      have f1868 := f1853.keep K1855
      have f1869 := own_AL1_keep f1854 K1855 (ninS ne_b1486_b1841 nin0) (ninS ne_ed1813_b1841 nin0)
      have f1870 := A1844.keep K1855
      show G w _ h1858 13 47 159 #[.val (.int p0), .val (.int p1), .val (.int p2), .val (.int (1 : Int32)), .val (.int (2 : Int32)), .val (.ref b1413), .val (.ref b1468), .val (.ref b1486), .unset, .unset] [(.ref b1841)]
      refine g_astore C (pc' := 161) (Ls' := #[.val (.int p0), .val (.int p1), .val (.int p2), .val (.int (1 : Int32)), .val (.int (2 : Int32)), .val (.ref b1413), .val (.ref b1468), .val (.ref b1486), .val (.ref b1841), .unset]) at_159 rfl rfl rfl rfl ?_
      refine g_iloadN C (pc' := 162) at_161 rfl rfl ?_
      refine g_ifN C (pc' := 165) at_162 rfl (by decide) rfl ?_
      refine g_iconst C (pc' := 166) (v := (1 : Int32)) at_165 (by decide) rfl ?_
      refine g_goto C (pc' := 170) at_166 (by decide) rfl ?_
      refine g_istore C (pc' := 172) (Ls' := #[.val (.int p0), .val (.int p1), .val (.int p2), .val (.int (1 : Int32)), .val (.int (2 : Int32)), .val (.ref b1413), .val (.ref b1468), .val (.ref b1486), .val (.ref b1841), .val (.int (1 : Int32))]) at_170 rfl rfl rfl ?_
      refine g_aload C (pc' := 174) at_172 rfl rfl rfl ?_
      refine g_virtual C (pc' := 177) (k' := 13) (n' := 47) (argsL := []) (rest := []) (wd hw 216 rfl) (wd hw 217 rfl) (nfSel (wd hw 219 rfl)) (wd hw 219 rfl) (wd hw 218 rfl) (wd hw 115 rfl) (wd hw 220 rfl) (by decide) at_174 pd_14 rfl rfl rfl E1856 (gr_1 l Z a0 hw n0 h1858 f1861 s_DEF s_EL s_EA s_EM cs mr H b1841 E1856 L F1857 EL) (Nat.le_of_ble_eq_true rfl) (Nat.le_of_ble_eq_true rfl) (Nat.le_of_ble_eq_true rfl) (Nat.le_of_ble_eq_true rfl) rfl rfl rfl (fun v1872 h1871 q1873 => ?_)
      obtain ⟨rfl, eh1871⟩ := q1873
      subst h1871
      show G w _ h1858 13 47 177 #[.val (.int p0), .val (.int p1), .val (.int p2), .val (.int (1 : Int32)), .val (.int (2 : Int32)), .val (.ref b1413), .val (.ref b1468), .val (.ref b1486), .val (.ref b1841), .val (.int (1 : Int32))] [(.int (1 : Int32))]
      refine g_iload C (pc' := 179) at_177 rfl rfl ?_
      refine g_icN C (pc' := 182) at_179 rfl (by decide) rfl ?_
      refine g_iconst C (pc' := 183) (v := (1 : Int32)) at_182 (by decide) rfl ?_
      refine g_goto C (pc' := 187) at_183 (by decide) rfl ?_
      exact g_zreturn C at_187 rfl rfl (Nat.le_of_ble_eq_true rfl) (Nat.le_of_ble_eq_true rfl) (rfl)
    · rw [e4]
      refine g_iload C (pc' := 103) at_101 rfl rfl ?_
      refine g_ifN C (pc' := 106) at_103 rfl (by decide) rfl ?_
      refine g_aload C (pc' := 108) at_106 rfl rfl rfl ?_
      refine g_aload C (pc' := 110) at_108 rfl rfl rfl ?_
      refine g_interface C (pc' := 115) (k' := 8) (n' := 38) (argsL := [(.ref b1413)]) (rest := []) (wd hw 78 rfl) (wd hw 79 rfl) (wd hw 80 rfl) rfl (wd hw 81 rfl) (wd hw 82 rfl) (wd hw 83 rfl) (wd hw 84 rfl) (wd hw 85 rfl) (wd hw 56 rfl) (wd hw 86 rfl) (by decide) at_110 pd_7 rfl rfl rfl f1726 (add_0 l Z a0 hw n0 h1719 f1722 s_DEF s_EL s_EA s_EM cs mr H b1486 (0 : Int32) b1413 f1723 f1727) (Nat.le_of_ble_eq_true rfl) (Nat.le_of_ble_eq_true rfl) (Nat.le_of_ble_eq_true rfl) (Nat.le_of_ble_eq_true rfl) rfl rfl rfl (fun v1880 h1879 q1881 => ?_)
      obtain ⟨rfl, K1874, ed1876, kE1877, hg1878, P1875⟩ := q1881
      have ne_b1413_ed1876 : b1413 ≠ ed1876 := Nat.ne_of_lt (Nat.lt_of_lt_of_le f1723.lt hg1878)
      have ne_b1420_ed1876 : b1420 ≠ ed1876 := Nat.ne_of_lt (Nat.lt_of_lt_of_le f1724.lt hg1878)
      have ne_b1468_ed1876 : b1468 ≠ ed1876 := Nat.ne_of_lt (Nat.lt_of_lt_of_le f1725.lt hg1878)
      have ne_b1486_ed1876 : b1486 ≠ ed1876 := Nat.ne_of_lt (Nat.lt_of_lt_of_le f1726.lt hg1878)
      have ne_ed1716_ed1876 : ed1716 ≠ ed1876 := Nat.ne_of_lt (Nat.lt_of_lt_of_le E1728.lt hg1878)
      have ge_ed1876 : n0 ≤ ed1876 := Nat.le_trans (f1722.1 ▸ f1722.2.1) hg1878
      have f1882 := f1722.keep K1874 (allS ge_b1486 all0)
      have f1883 := f1723.keep K1874
      have f1884 := f1724.keep K1874
      have f1885 := f1725.keep K1874
      have f1886 := f1726.keep K1874
      have f1887 := own_AL1_keep P1715 K1874 (ninS ne_b1468_b1486 nin0) (ninS (Ne.symm ne_b1486_ed1716) nin0)
      have f1888 := E1728.keep K1874
      have E1889 := P1875.2.2.2.2.2.1
      show G w _ h1879 8 38 115 #[.val (.int p0), .val (.int p1), .val (.int p2), .val (.int (1 : Int32)), .val (.int (3 : Int32)), .val (.ref b1413), .val (.ref b1468), .val (.ref b1486), .unset, .unset] [(.int (1 : Int32))]
      refine g_pop C (pc' := 116) at_115 rfl rfl rfl ?_
      refine g_iload C (pc' := 118) at_116 rfl rfl ?_
      refine g_iconst C (pc' := 119) (v := (1 : Int32)) at_118 (by decide) rfl ?_
      refine g_icN C (pc' := 122) at_119 rfl (by decide) rfl ?_
      refine g_aload C (pc' := 124) at_122 rfl rfl rfl ?_
      refine g_aload C (pc' := 126) at_124 rfl rfl rfl ?_
      refine g_interface C (pc' := 131) (k' := 8) (n' := 38) (argsL := [(.ref b1413)]) (rest := []) (wd hw 78 rfl) (wd hw 79 rfl) (wd hw 80 rfl) rfl (wd hw 81 rfl) (wd hw 82 rfl) (wd hw 83 rfl) (wd hw 84 rfl) (wd hw 85 rfl) (wd hw 56 rfl) (wd hw 86 rfl) (by decide) at_126 pd_7 rfl rfl rfl f1886 (add_1 l Z a0 hw n0 h1879 f1882 s_DEF s_EL s_EA s_EM cs mr H b1486 ed1876 kE1877 ((0 : Int32) + (1 : Int32)) b1413 b1413 f1883 P1875) (Nat.le_of_ble_eq_true rfl) (Nat.le_of_ble_eq_true rfl) (Nat.le_of_ble_eq_true rfl) (Nat.le_of_ble_eq_true rfl) rfl rfl rfl (fun v1893 h1892 q1894 => ?_)
      obtain ⟨rfl, K1890, P1891⟩ := q1894
      have f1895 := f1882.keep K1890 (allS ge_b1486 (allS ge_ed1876 all0))
      have f1896 := f1883.keep K1890
      have f1897 := f1884.keep K1890
      have f1898 := f1885.keep K1890
      have f1899 := f1886.keep K1890
      have f1900 := own_AL1_keep f1887 K1890 (ninS ne_b1468_b1486 (ninS ne_b1468_ed1876 nin0)) (ninS (Ne.symm ne_b1486_ed1716) (ninS ne_ed1716_ed1876 nin0))
      have f1901 := f1888.keep K1890
      have f1902 := E1889.keep K1890
      show G w _ h1892 8 38 131 #[.val (.int p0), .val (.int p1), .val (.int p2), .val (.int (1 : Int32)), .val (.int (3 : Int32)), .val (.ref b1413), .val (.ref b1468), .val (.ref b1486), .unset, .unset] [(.int (1 : Int32))]
      refine g_pop C (pc' := 132) at_131 rfl rfl rfl ?_
      refine g_iload C (pc' := 134) at_132 rfl rfl ?_
      refine g_iconst C (pc' := 135) (v := (2 : Int32)) at_134 (by decide) rfl ?_
      refine g_icN C (pc' := 138) at_135 rfl (by decide) rfl ?_
      refine g_aload C (pc' := 140) at_138 rfl rfl rfl ?_
      refine g_aload C (pc' := 142) at_140 rfl rfl rfl ?_
      refine g_interface C (pc' := 147) (k' := 8) (n' := 38) (argsL := [(.ref b1413)]) (rest := []) (wd hw 78 rfl) (wd hw 79 rfl) (wd hw 80 rfl) rfl (wd hw 81 rfl) (wd hw 82 rfl) (wd hw 83 rfl) (wd hw 84 rfl) (wd hw 85 rfl) (wd hw 56 rfl) (wd hw 86 rfl) (by decide) at_142 pd_7 rfl rfl rfl f1899 (add_2 l Z a0 hw n0 h1892 f1895 s_DEF s_EL s_EA s_EM cs mr H b1486 ed1876 kE1877 (((0 : Int32) + (1 : Int32)) + (1 : Int32)) b1413 b1413 b1413 f1896 P1891) (Nat.le_of_ble_eq_true rfl) (Nat.le_of_ble_eq_true rfl) (Nat.le_of_ble_eq_true rfl) (Nat.le_of_ble_eq_true rfl) rfl rfl rfl (fun v1906 h1905 q1907 => ?_)
      obtain ⟨rfl, K1903, P1904⟩ := q1907
      have f1908 := f1895.keep K1903 (allS ge_b1486 (allS ge_ed1876 all0))
      have f1909 := f1896.keep K1903
      have f1910 := f1897.keep K1903
      have f1911 := f1898.keep K1903
      have f1912 := f1899.keep K1903
      have f1913 := own_AL1_keep f1900 K1903 (ninS ne_b1468_b1486 (ninS ne_b1468_ed1876 nin0)) (ninS (Ne.symm ne_b1486_ed1716) (ninS ne_ed1716_ed1876 nin0))
      have f1914 := f1901.keep K1903
      have f1915 := f1902.keep K1903
      show G w _ h1905 8 38 147 #[.val (.int p0), .val (.int p1), .val (.int p2), .val (.int (1 : Int32)), .val (.int (3 : Int32)), .val (.ref b1413), .val (.ref b1468), .val (.ref b1486), .unset, .unset] [(.int (1 : Int32))]
      refine g_pop C (pc' := 148) at_147 rfl rfl rfl ?_
      refine g_new C (pc' := 151) (k' := 9) (n' := 40) (wd hw 113 rfl) (wd hw 114 rfl) (wd hw 115 rfl) at_148 (by decide) (by decide) rfl rfl rfl (fun h1916 b1917 ex1918 E1919 A1920 D1921 => ?_)
      have ne_b1413_b1917 : b1413 ≠ b1917 := Nat.ne_of_lt (by rw [ex1918]; exact f1909.lt)
      have ne_b1420_b1917 : b1420 ≠ b1917 := Nat.ne_of_lt (by rw [ex1918]; exact f1910.lt)
      have ne_b1468_b1917 : b1468 ≠ b1917 := Nat.ne_of_lt (by rw [ex1918]; exact f1911.lt)
      have ne_b1486_b1917 : b1486 ≠ b1917 := Nat.ne_of_lt (by rw [ex1918]; exact f1912.lt)
      have ne_ed1716_b1917 : ed1716 ≠ b1917 := Nat.ne_of_lt (by rw [ex1918]; exact f1914.lt)
      have ne_ed1876_b1917 : ed1876 ≠ b1917 := Nat.ne_of_lt (by rw [ex1918]; exact f1915.lt)
      have ge_b1917 : n0 ≤ b1917 := by rw [ex1918]; exact f1908.1 ▸ f1908.2.1
      have f1922 := f1908.ext E1919
      have f1923 := f1909.ext E1919
      have f1924 := f1910.ext E1919
      have f1925 := f1911.ext E1919
      have f1926 := f1912.ext E1919
      have f1927 := own_AL1_ext f1913 E1919
      have f1928 := f1914.ext E1919
      have f1929 := f1915.ext E1919
      have f1930 := own_AL1_ext P1904 E1919
      have F_area_b1917 : Fld Z h1916 b1917 "com/example/plumbline/plumbline/Grades" "area" "Ljava/util/List;" .null := D1921 (Or.inr (wd hw 148 rfl)) (ty := (.object "java/util/List")) (by decide)
      have F_total_b1917 : Fld Z h1916 b1917 "com/example/plumbline/plumbline/Grades" "total" "Ljava/util/List;" .null := D1921 (Or.inr (wd hw 215 rfl)) (ty := (.object "java/util/List")) (by decide)
      refine g_dup C (pc' := 152) at_151 rfl rfl rfl ?_
      refine g_aload C (pc' := 154) at_152 rfl rfl rfl ?_
      refine g_aload C (pc' := 156) at_154 rfl rfl rfl ?_
      refine g_special C (pc' := 159) (k' := 14) (n' := 51) (argsL := [(.ref b1468), (.ref b1486)]) (rest := [(.ref b1917)]) (wd hw 116 rfl) (wd hw 117 rfl) (wd hw 115 rfl) (wd hw 118 rfl) (by decide) rfl at_156 pd_12 rfl rfl rfl (gsI_13 l Z a0 hw n0 h1916 f1922 s_DEF s_EL s_EA s_EM cs mr H b1917 b1413 ge_b1917 b1468 ed1716 kE1717 ((0 : Int32) + (1 : Int32)) b1486 ed1876 kE1877 ((((0 : Int32) + (1 : Int32)) + (1 : Int32)) + (1 : Int32)) A1920 F_area_b1917 F_total_b1917 f1923 f1927 f1930 (Ne.symm ne_b1468_b1917) (Ne.symm ne_b1486_b1917) (Ne.symm ne_ed1716_b1917) (Ne.symm ne_ed1876_b1917)) (Nat.le_of_ble_eq_true rfl) (Nat.le_of_ble_eq_true rfl) (Nat.le_of_ble_eq_true rfl) (Nat.le_of_ble_eq_true rfl) rfl rfl rfl (fun v1935 h1934 q1936 => ?_)
      obtain ⟨rfl, K1931, E1932, L, F1933, EL⟩ := q1936
      have f1937 := f1922.keep K1931 (allS ge_b1917 all0)
      have f1938 := f1923.keep K1931
      have f1939 := f1924.keep K1931
      have f1940 := f1925.keep K1931
      have f1941 := f1926.keep K1931
      have f1942 := own_AL1_keep f1927 K1931 (ninS ne_b1468_b1917 nin0) (ninS ne_ed1716_b1917 nin0)
      have f1943 := f1928.keep K1931
      have f1944 := f1929.keep K1931
      have f1945 := own_AL1_keep f1930 K1931 (ninS ne_b1486_b1917 nin0) (ninS ne_ed1876_b1917 nin0)
      have f1946 := A1920.keep K1931
      show G w _ h1934 14 51 159 #[.val (.int p0), .val (.int p1), .val (.int p2), .val (.int (1 : Int32)), .val (.int (3 : Int32)), .val (.ref b1413), .val (.ref b1468), .val (.ref b1486), .unset, .unset] [(.ref b1917)]
      refine g_astore C (pc' := 161) (Ls' := #[.val (.int p0), .val (.int p1), .val (.int p2), .val (.int (1 : Int32)), .val (.int (3 : Int32)), .val (.ref b1413), .val (.ref b1468), .val (.ref b1486), .val (.ref b1917), .unset]) at_159 rfl rfl rfl rfl ?_
      refine g_iloadN C (pc' := 162) at_161 rfl rfl ?_
      refine g_ifN C (pc' := 165) at_162 rfl (by decide) rfl ?_
      refine g_iconst C (pc' := 166) (v := (1 : Int32)) at_165 (by decide) rfl ?_
      refine g_goto C (pc' := 170) at_166 (by decide) rfl ?_
      refine g_istore C (pc' := 172) (Ls' := #[.val (.int p0), .val (.int p1), .val (.int p2), .val (.int (1 : Int32)), .val (.int (3 : Int32)), .val (.ref b1413), .val (.ref b1468), .val (.ref b1486), .val (.ref b1917), .val (.int (1 : Int32))]) at_170 rfl rfl rfl ?_
      refine g_aload C (pc' := 174) at_172 rfl rfl rfl ?_
      refine g_virtual C (pc' := 177) (k' := 14) (n' := 51) (argsL := []) (rest := []) (wd hw 216 rfl) (wd hw 217 rfl) (nfSel (wd hw 219 rfl)) (wd hw 219 rfl) (wd hw 218 rfl) (wd hw 115 rfl) (wd hw 220 rfl) (by decide) at_174 pd_14 rfl rfl rfl E1932 (gr_1 l Z a0 hw n0 h1934 f1937 s_DEF s_EL s_EA s_EM cs mr H b1917 E1932 L F1933 EL) (Nat.le_of_ble_eq_true rfl) (Nat.le_of_ble_eq_true rfl) (Nat.le_of_ble_eq_true rfl) (Nat.le_of_ble_eq_true rfl) rfl rfl rfl (fun v1948 h1947 q1949 => ?_)
      obtain ⟨rfl, eh1947⟩ := q1949
      subst h1947
      show G w _ h1934 14 51 177 #[.val (.int p0), .val (.int p1), .val (.int p2), .val (.int (1 : Int32)), .val (.int (3 : Int32)), .val (.ref b1413), .val (.ref b1468), .val (.ref b1486), .val (.ref b1917), .val (.int (1 : Int32))] [(.int (1 : Int32))]
      refine g_iload C (pc' := 179) at_177 rfl rfl ?_
      refine g_icN C (pc' := 182) at_179 rfl (by decide) rfl ?_
      refine g_iconst C (pc' := 183) (v := (1 : Int32)) at_182 (by decide) rfl ?_
      refine g_goto C (pc' := 187) at_183 (by decide) rfl ?_
      exact g_zreturn C at_187 rfl rfl (Nat.le_of_ble_eq_true rfl) (Nat.le_of_ble_eq_true rfl) (rfl)
  · rw [e4]
    refine g_iloadN C (pc' := 58) at_57 rfl rfl ?_
    refine g_ifN C (pc' := 61) at_58 rfl (by decide) rfl ?_
    refine g_aload C (pc' := 63) at_61 rfl rfl rfl ?_
    refine g_aload C (pc' := 65) at_63 rfl rfl rfl ?_
    refine g_interface C (pc' := 70) (k' := 7) (n' := 28) (argsL := [(.ref b1413)]) (rest := []) (wd hw 78 rfl) (wd hw 79 rfl) (wd hw 80 rfl) rfl (wd hw 81 rfl) (wd hw 82 rfl) (wd hw 83 rfl) (wd hw 84 rfl) (wd hw 85 rfl) (wd hw 56 rfl) (wd hw 86 rfl) (by decide) at_65 pd_7 rfl rfl rfl f1504 (add_0 l Z a0 hw n0 h1498 f1501 s_DEF s_EL s_EA s_EM cs mr H b1468 (0 : Int32) b1413 f1502 f1505) (Nat.le_of_ble_eq_true rfl) (Nat.le_of_ble_eq_true rfl) (Nat.le_of_ble_eq_true rfl) (Nat.le_of_ble_eq_true rfl) rfl rfl rfl (fun v1956 h1955 q1957 => ?_)
    obtain ⟨rfl, K1950, ed1952, kE1953, hg1954, P1951⟩ := q1957
    have ne_b1413_ed1952 : b1413 ≠ ed1952 := Nat.ne_of_lt (Nat.lt_of_lt_of_le f1502.lt hg1954)
    have ne_b1420_ed1952 : b1420 ≠ ed1952 := Nat.ne_of_lt (Nat.lt_of_lt_of_le f1503.lt hg1954)
    have ne_b1468_ed1952 : b1468 ≠ ed1952 := Nat.ne_of_lt (Nat.lt_of_lt_of_le f1504.lt hg1954)
    have ne_b1486_ed1952 : b1486 ≠ ed1952 := Nat.ne_of_lt (Nat.lt_of_lt_of_le f1506.lt hg1954)
    have ge_ed1952 : n0 ≤ ed1952 := Nat.le_trans (f1501.1 ▸ f1501.2.1) hg1954
    have f1958 := f1501.keep K1950 (allS ge_b1468 all0)
    have f1959 := f1502.keep K1950
    have f1960 := f1503.keep K1950
    have f1961 := f1504.keep K1950
    have f1962 := f1506.keep K1950
    have f1963 := own_AL0_keep P1497 K1950 (ninS (Ne.symm ne_b1468_b1486) nin0)
    have E1964 := P1951.2.2.2.2.2.1
    show G w _ h1955 7 28 70 #[.val (.int p0), .val (.int p1), .val (.int p2), .val (.int (2 : Int32)), .val (.int (p1 &&& (3 : Int32))), .val (.ref b1413), .val (.ref b1468), .val (.ref b1486), .unset, .unset] [(.int (1 : Int32))]
    refine g_pop C (pc' := 71) at_70 rfl rfl rfl ?_
    refine g_iloadN C (pc' := 72) at_71 rfl rfl ?_
    refine g_iconst C (pc' := 73) (v := (1 : Int32)) at_72 (by decide) rfl ?_
    refine g_icN C (pc' := 76) at_73 rfl (by decide) rfl ?_
    refine g_aload C (pc' := 78) at_76 rfl rfl rfl ?_
    refine g_aload C (pc' := 80) at_78 rfl rfl rfl ?_
    refine g_interface C (pc' := 85) (k' := 7) (n' := 28) (argsL := [(.ref b1413)]) (rest := []) (wd hw 78 rfl) (wd hw 79 rfl) (wd hw 80 rfl) rfl (wd hw 81 rfl) (wd hw 82 rfl) (wd hw 83 rfl) (wd hw 84 rfl) (wd hw 85 rfl) (wd hw 56 rfl) (wd hw 86 rfl) (by decide) at_80 pd_7 rfl rfl rfl f1961 (add_1 l Z a0 hw n0 h1955 f1958 s_DEF s_EL s_EA s_EM cs mr H b1468 ed1952 kE1953 ((0 : Int32) + (1 : Int32)) b1413 b1413 f1959 P1951) (Nat.le_of_ble_eq_true rfl) (Nat.le_of_ble_eq_true rfl) (Nat.le_of_ble_eq_true rfl) (Nat.le_of_ble_eq_true rfl) rfl rfl rfl (fun v1968 h1967 q1969 => ?_)
    obtain ⟨rfl, K1965, P1966⟩ := q1969
    have f1970 := f1958.keep K1965 (allS ge_b1468 (allS ge_ed1952 all0))
    have f1971 := f1959.keep K1965
    have f1972 := f1960.keep K1965
    have f1973 := f1961.keep K1965
    have f1974 := f1962.keep K1965
    have f1975 := own_AL0_keep f1963 K1965 (ninS (Ne.symm ne_b1468_b1486) (ninS ne_b1486_ed1952 nin0))
    have f1976 := E1964.keep K1965
    show G w _ h1967 7 28 85 #[.val (.int p0), .val (.int p1), .val (.int p2), .val (.int (2 : Int32)), .val (.int (p1 &&& (3 : Int32))), .val (.ref b1413), .val (.ref b1468), .val (.ref b1486), .unset, .unset] [(.int (1 : Int32))]
    refine g_pop C (pc' := 86) at_85 rfl rfl rfl ?_
    refine g_iloadN C (pc' := 87) at_86 rfl rfl ?_
    refine g_iconst C (pc' := 88) (v := (2 : Int32)) at_87 (by decide) rfl ?_
    refine g_icY C (pc' := 101) at_88 rfl (by decide) (by decide) rfl ?_
    rcases own_and3 p1 with e4 | e4 | e4 | e4
    · rw [e4]
      refine g_iload C (pc' := 103) at_101 rfl rfl ?_
      refine g_ifY C (pc' := 116) at_103 rfl (by decide) (by decide) rfl ?_
      refine g_iload C (pc' := 118) at_116 rfl rfl ?_
      refine g_iconst C (pc' := 119) (v := (1 : Int32)) at_118 (by decide) rfl ?_
      refine g_icY C (pc' := 132) at_119 rfl (by decide) (by decide) rfl ?_
      refine g_iload C (pc' := 134) at_132 rfl rfl ?_
      refine g_iconst C (pc' := 135) (v := (2 : Int32)) at_134 (by decide) rfl ?_
      refine g_icY C (pc' := 148) at_135 rfl (by decide) (by decide) rfl ?_
      refine g_new C (pc' := 151) (k' := 8) (n' := 30) (wd hw 113 rfl) (wd hw 114 rfl) (wd hw 115 rfl) at_148 (by decide) (by decide) rfl rfl rfl (fun h1977 b1978 ex1979 E1980 A1981 D1982 => ?_)
      have ne_b1413_b1978 : b1413 ≠ b1978 := Nat.ne_of_lt (by rw [ex1979]; exact f1971.lt)
      have ne_b1420_b1978 : b1420 ≠ b1978 := Nat.ne_of_lt (by rw [ex1979]; exact f1972.lt)
      have ne_b1468_b1978 : b1468 ≠ b1978 := Nat.ne_of_lt (by rw [ex1979]; exact f1973.lt)
      have ne_b1486_b1978 : b1486 ≠ b1978 := Nat.ne_of_lt (by rw [ex1979]; exact f1974.lt)
      have ne_ed1952_b1978 : ed1952 ≠ b1978 := Nat.ne_of_lt (by rw [ex1979]; exact f1976.lt)
      have ge_b1978 : n0 ≤ b1978 := by rw [ex1979]; exact f1970.1 ▸ f1970.2.1
      have f1983 := f1970.ext E1980
      have f1984 := f1971.ext E1980
      have f1985 := f1972.ext E1980
      have f1986 := f1973.ext E1980
      have f1987 := f1974.ext E1980
      have f1988 := own_AL0_ext f1975 E1980
      have f1989 := f1976.ext E1980
      have f1990 := own_AL1_ext P1966 E1980
      have F_area_b1978 : Fld Z h1977 b1978 "com/example/plumbline/plumbline/Grades" "area" "Ljava/util/List;" .null := D1982 (Or.inr (wd hw 148 rfl)) (ty := (.object "java/util/List")) (by decide)
      have F_total_b1978 : Fld Z h1977 b1978 "com/example/plumbline/plumbline/Grades" "total" "Ljava/util/List;" .null := D1982 (Or.inr (wd hw 215 rfl)) (ty := (.object "java/util/List")) (by decide)
      refine g_dup C (pc' := 152) at_151 rfl rfl rfl ?_
      refine g_aload C (pc' := 154) at_152 rfl rfl rfl ?_
      refine g_aload C (pc' := 156) at_154 rfl rfl rfl ?_
      refine g_special C (pc' := 159) (k' := 10) (n' := 34) (argsL := [(.ref b1468), (.ref b1486)]) (rest := [(.ref b1978)]) (wd hw 116 rfl) (wd hw 117 rfl) (wd hw 115 rfl) (wd hw 118 rfl) (by decide) rfl at_156 pd_12 rfl rfl rfl (gsI_20 l Z a0 hw n0 h1977 f1983 s_DEF s_EL s_EA s_EM cs mr H b1978 b1413 ge_b1978 b1468 ed1952 kE1953 (((0 : Int32) + (1 : Int32)) + (1 : Int32)) b1486 (0 : Int32) A1981 F_area_b1978 F_total_b1978 f1984 f1990 f1988 (Ne.symm ne_b1468_b1978) (Ne.symm ne_b1486_b1978) (Ne.symm ne_ed1952_b1978)) (Nat.le_of_ble_eq_true rfl) (Nat.le_of_ble_eq_true rfl) (Nat.le_of_ble_eq_true rfl) (Nat.le_of_ble_eq_true rfl) rfl rfl rfl (fun v1995 h1994 q1996 => ?_)
      obtain ⟨rfl, K1991, E1992, L, F1993, EL⟩ := q1996
      have f1997 := f1983.keep K1991 (allS ge_b1978 all0)
      have f1998 := f1984.keep K1991
      have f1999 := f1985.keep K1991
      have f2000 := f1986.keep K1991
      have f2001 := f1987.keep K1991
      have f2002 := own_AL0_keep f1988 K1991 (ninS ne_b1486_b1978 nin0)
      have f2003 := f1989.keep K1991
      have f2004 := own_AL1_keep f1990 K1991 (ninS ne_b1468_b1978 nin0) (ninS ne_ed1952_b1978 nin0)
      have f2005 := A1981.keep K1991
      show G w _ h1994 10 34 159 #[.val (.int p0), .val (.int p1), .val (.int p2), .val (.int (2 : Int32)), .val (.int (0 : Int32)), .val (.ref b1413), .val (.ref b1468), .val (.ref b1486), .unset, .unset] [(.ref b1978)]
      refine g_astore C (pc' := 161) (Ls' := #[.val (.int p0), .val (.int p1), .val (.int p2), .val (.int (2 : Int32)), .val (.int (0 : Int32)), .val (.ref b1413), .val (.ref b1468), .val (.ref b1486), .val (.ref b1978), .unset]) at_159 rfl rfl rfl rfl ?_
      refine g_iloadN C (pc' := 162) at_161 rfl rfl ?_
      refine g_ifN C (pc' := 165) at_162 rfl (by decide) rfl ?_
      refine g_iconst C (pc' := 166) (v := (1 : Int32)) at_165 (by decide) rfl ?_
      refine g_goto C (pc' := 170) at_166 (by decide) rfl ?_
      refine g_istore C (pc' := 172) (Ls' := #[.val (.int p0), .val (.int p1), .val (.int p2), .val (.int (2 : Int32)), .val (.int (0 : Int32)), .val (.ref b1413), .val (.ref b1468), .val (.ref b1486), .val (.ref b1978), .val (.int (1 : Int32))]) at_170 rfl rfl rfl ?_
      refine g_aload C (pc' := 174) at_172 rfl rfl rfl ?_
      refine g_virtual C (pc' := 177) (k' := 10) (n' := 34) (argsL := []) (rest := []) (wd hw 216 rfl) (wd hw 217 rfl) (nfSel (wd hw 219 rfl)) (wd hw 219 rfl) (wd hw 218 rfl) (wd hw 115 rfl) (wd hw 220 rfl) (by decide) at_174 pd_14 rfl rfl rfl E1992 (gr_2 l Z a0 hw n0 h1994 f1997 s_DEF s_EL s_EA s_EM cs mr H b1978 E1992 L F1993 EL) (Nat.le_of_ble_eq_true rfl) (Nat.le_of_ble_eq_true rfl) (Nat.le_of_ble_eq_true rfl) (Nat.le_of_ble_eq_true rfl) rfl rfl rfl (fun v2007 h2006 q2008 => ?_)
      obtain ⟨rfl, eh2006⟩ := q2008
      subst h2006
      show G w _ h1994 10 34 177 #[.val (.int p0), .val (.int p1), .val (.int p2), .val (.int (2 : Int32)), .val (.int (0 : Int32)), .val (.ref b1413), .val (.ref b1468), .val (.ref b1486), .val (.ref b1978), .val (.int (1 : Int32))] [(.int (1 : Int32))]
      refine g_iload C (pc' := 179) at_177 rfl rfl ?_
      refine g_icN C (pc' := 182) at_179 rfl (by decide) rfl ?_
      refine g_iconst C (pc' := 183) (v := (1 : Int32)) at_182 (by decide) rfl ?_
      refine g_goto C (pc' := 187) at_183 (by decide) rfl ?_
      exact g_zreturn C at_187 rfl rfl (Nat.le_of_ble_eq_true rfl) (Nat.le_of_ble_eq_true rfl) (rfl)
    · rw [e4]
      refine g_iload C (pc' := 103) at_101 rfl rfl ?_
      refine g_ifN C (pc' := 106) at_103 rfl (by decide) rfl ?_
      refine g_aload C (pc' := 108) at_106 rfl rfl rfl ?_
      refine g_aload C (pc' := 110) at_108 rfl rfl rfl ?_
      refine g_interface C (pc' := 115) (k' := 8) (n' := 38) (argsL := [(.ref b1413)]) (rest := []) (wd hw 78 rfl) (wd hw 79 rfl) (wd hw 80 rfl) rfl (wd hw 81 rfl) (wd hw 82 rfl) (wd hw 83 rfl) (wd hw 84 rfl) (wd hw 85 rfl) (wd hw 56 rfl) (wd hw 86 rfl) (by decide) at_110 pd_7 rfl rfl rfl f1974 (add_0 l Z a0 hw n0 h1967 f1970 s_DEF s_EL s_EA s_EM cs mr H b1486 (0 : Int32) b1413 f1971 f1975) (Nat.le_of_ble_eq_true rfl) (Nat.le_of_ble_eq_true rfl) (Nat.le_of_ble_eq_true rfl) (Nat.le_of_ble_eq_true rfl) rfl rfl rfl (fun v2015 h2014 q2016 => ?_)
      obtain ⟨rfl, K2009, ed2011, kE2012, hg2013, P2010⟩ := q2016
      have ne_b1413_ed2011 : b1413 ≠ ed2011 := Nat.ne_of_lt (Nat.lt_of_lt_of_le f1971.lt hg2013)
      have ne_b1420_ed2011 : b1420 ≠ ed2011 := Nat.ne_of_lt (Nat.lt_of_lt_of_le f1972.lt hg2013)
      have ne_b1468_ed2011 : b1468 ≠ ed2011 := Nat.ne_of_lt (Nat.lt_of_lt_of_le f1973.lt hg2013)
      have ne_b1486_ed2011 : b1486 ≠ ed2011 := Nat.ne_of_lt (Nat.lt_of_lt_of_le f1974.lt hg2013)
      have ne_ed1952_ed2011 : ed1952 ≠ ed2011 := Nat.ne_of_lt (Nat.lt_of_lt_of_le f1976.lt hg2013)
      have ge_ed2011 : n0 ≤ ed2011 := Nat.le_trans (f1970.1 ▸ f1970.2.1) hg2013
      have f2017 := f1970.keep K2009 (allS ge_b1486 all0)
      have f2018 := f1971.keep K2009
      have f2019 := f1972.keep K2009
      have f2020 := f1973.keep K2009
      have f2021 := f1974.keep K2009
      have f2022 := f1976.keep K2009
      have f2023 := own_AL1_keep P1966 K2009 (ninS ne_b1468_b1486 nin0) (ninS (Ne.symm ne_b1486_ed1952) nin0)
      have E2024 := P2010.2.2.2.2.2.1
      show G w _ h2014 8 38 115 #[.val (.int p0), .val (.int p1), .val (.int p2), .val (.int (2 : Int32)), .val (.int (1 : Int32)), .val (.ref b1413), .val (.ref b1468), .val (.ref b1486), .unset, .unset] [(.int (1 : Int32))]
      refine g_pop C (pc' := 116) at_115 rfl rfl rfl ?_
      refine g_iload C (pc' := 118) at_116 rfl rfl ?_
      refine g_iconst C (pc' := 119) (v := (1 : Int32)) at_118 (by decide) rfl ?_
      refine g_icY C (pc' := 132) at_119 rfl (by decide) (by decide) rfl ?_
      refine g_iload C (pc' := 134) at_132 rfl rfl ?_
      refine g_iconst C (pc' := 135) (v := (2 : Int32)) at_134 (by decide) rfl ?_
      refine g_icY C (pc' := 148) at_135 rfl (by decide) (by decide) rfl ?_
      refine g_new C (pc' := 151) (k' := 9) (n' := 40) (wd hw 113 rfl) (wd hw 114 rfl) (wd hw 115 rfl) at_148 (by decide) (by decide) rfl rfl rfl (fun h2025 b2026 ex2027 E2028 A2029 D2030 => ?_)
      have ne_b1413_b2026 : b1413 ≠ b2026 := Nat.ne_of_lt (by rw [ex2027]; exact f2018.lt)
      have ne_b1420_b2026 : b1420 ≠ b2026 := Nat.ne_of_lt (by rw [ex2027]; exact f2019.lt)
      have ne_b1468_b2026 : b1468 ≠ b2026 := Nat.ne_of_lt (by rw [ex2027]; exact f2020.lt)
      have ne_b1486_b2026 : b1486 ≠ b2026 := Nat.ne_of_lt (by rw [ex2027]; exact f2021.lt)
      have ne_ed1952_b2026 : ed1952 ≠ b2026 := Nat.ne_of_lt (by rw [ex2027]; exact f2022.lt)
      have ne_ed2011_b2026 : ed2011 ≠ b2026 := Nat.ne_of_lt (by rw [ex2027]; exact E2024.lt)
      have ge_b2026 : n0 ≤ b2026 := by rw [ex2027]; exact f2017.1 ▸ f2017.2.1
      have f2031 := f2017.ext E2028
      have f2032 := f2018.ext E2028
      have f2033 := f2019.ext E2028
      have f2034 := f2020.ext E2028
      have f2035 := f2021.ext E2028
      have f2036 := f2022.ext E2028
      have f2037 := own_AL1_ext f2023 E2028
      have f2038 := own_AL1_ext P2010 E2028
      have f2039 := E2024.ext E2028
      have F_area_b2026 : Fld Z h2025 b2026 "com/example/plumbline/plumbline/Grades" "area" "Ljava/util/List;" .null := D2030 (Or.inr (wd hw 148 rfl)) (ty := (.object "java/util/List")) (by decide)
      have F_total_b2026 : Fld Z h2025 b2026 "com/example/plumbline/plumbline/Grades" "total" "Ljava/util/List;" .null := D2030 (Or.inr (wd hw 215 rfl)) (ty := (.object "java/util/List")) (by decide)
      refine g_dup C (pc' := 152) at_151 rfl rfl rfl ?_
      refine g_aload C (pc' := 154) at_152 rfl rfl rfl ?_
      refine g_aload C (pc' := 156) at_154 rfl rfl rfl ?_
      refine g_special C (pc' := 159) (k' := 13) (n' := 47) (argsL := [(.ref b1468), (.ref b1486)]) (rest := [(.ref b2026)]) (wd hw 116 rfl) (wd hw 117 rfl) (wd hw 115 rfl) (wd hw 118 rfl) (by decide) rfl at_156 pd_12 rfl rfl rfl (gsI_21 l Z a0 hw n0 h2025 f2031 s_DEF s_EL s_EA s_EM cs mr H b2026 b1413 ge_b2026 b1468 ed1952 kE1953 (((0 : Int32) + (1 : Int32)) + (1 : Int32)) b1486 ed2011 kE2012 ((0 : Int32) + (1 : Int32)) A2029 F_area_b2026 F_total_b2026 f2032 f2037 f2038 (Ne.symm ne_b1468_b2026) (Ne.symm ne_b1486_b2026) (Ne.symm ne_ed1952_b2026) (Ne.symm ne_ed2011_b2026)) (Nat.le_of_ble_eq_true rfl) (Nat.le_of_ble_eq_true rfl) (Nat.le_of_ble_eq_true rfl) (Nat.le_of_ble_eq_true rfl) rfl rfl rfl (fun v2044 h2043 q2045 => ?_)
      obtain ⟨rfl, K2040, E2041, L, F2042, EL⟩ := q2045
      have f2046 := f2031.keep K2040 (allS ge_b2026 all0)
      have f2047 := f2032.keep K2040
      have f2048 := f2033.keep K2040
      have f2049 := f2034.keep K2040
      have f2050 := f2035.keep K2040
      have f2051 := f2036.keep K2040
      have f2052 := own_AL1_keep f2037 K2040 (ninS ne_b1468_b2026 nin0) (ninS ne_ed1952_b2026 nin0)
      have f2053 := own_AL1_keep f2038 K2040 (ninS ne_b1486_b2026 nin0) (ninS ne_ed2011_b2026 nin0)
      have f2054 := f2039.keep K2040
      have f2055 := A2029.keep K2040
      show G w _ h2043 13 47 159 #[.val (.int p0), .val (.int p1), .val (.int p2), .val (.int (2 : Int32)), .val (.int (1 : Int32)), .val (.ref b1413), .val (.ref b1468), .val (.ref b1486), .unset, .unset] [(.ref b2026)]
      refine g_astore C (pc' := 161) (Ls' := #[.val (.int p0), .val (.int p1), .val (.int p2), .val (.int (2 : Int32)), .val (.int (1 : Int32)), .val (.ref b1413), .val (.ref b1468), .val (.ref b1486), .val (.ref b2026), .unset]) at_159 rfl rfl rfl rfl ?_
      refine g_iloadN C (pc' := 162) at_161 rfl rfl ?_
      refine g_ifN C (pc' := 165) at_162 rfl (by decide) rfl ?_
      refine g_iconst C (pc' := 166) (v := (1 : Int32)) at_165 (by decide) rfl ?_
      refine g_goto C (pc' := 170) at_166 (by decide) rfl ?_
      refine g_istore C (pc' := 172) (Ls' := #[.val (.int p0), .val (.int p1), .val (.int p2), .val (.int (2 : Int32)), .val (.int (1 : Int32)), .val (.ref b1413), .val (.ref b1468), .val (.ref b1486), .val (.ref b2026), .val (.int (1 : Int32))]) at_170 rfl rfl rfl ?_
      refine g_aload C (pc' := 174) at_172 rfl rfl rfl ?_
      refine g_virtual C (pc' := 177) (k' := 13) (n' := 47) (argsL := []) (rest := []) (wd hw 216 rfl) (wd hw 217 rfl) (nfSel (wd hw 219 rfl)) (wd hw 219 rfl) (wd hw 218 rfl) (wd hw 115 rfl) (wd hw 220 rfl) (by decide) at_174 pd_14 rfl rfl rfl E2041 (gr_2 l Z a0 hw n0 h2043 f2046 s_DEF s_EL s_EA s_EM cs mr H b2026 E2041 L F2042 EL) (Nat.le_of_ble_eq_true rfl) (Nat.le_of_ble_eq_true rfl) (Nat.le_of_ble_eq_true rfl) (Nat.le_of_ble_eq_true rfl) rfl rfl rfl (fun v2057 h2056 q2058 => ?_)
      obtain ⟨rfl, eh2056⟩ := q2058
      subst h2056
      show G w _ h2043 13 47 177 #[.val (.int p0), .val (.int p1), .val (.int p2), .val (.int (2 : Int32)), .val (.int (1 : Int32)), .val (.ref b1413), .val (.ref b1468), .val (.ref b1486), .val (.ref b2026), .val (.int (1 : Int32))] [(.int (1 : Int32))]
      refine g_iload C (pc' := 179) at_177 rfl rfl ?_
      refine g_icN C (pc' := 182) at_179 rfl (by decide) rfl ?_
      refine g_iconst C (pc' := 183) (v := (1 : Int32)) at_182 (by decide) rfl ?_
      refine g_goto C (pc' := 187) at_183 (by decide) rfl ?_
      exact g_zreturn C at_187 rfl rfl (Nat.le_of_ble_eq_true rfl) (Nat.le_of_ble_eq_true rfl) (rfl)
    · rw [e4]
      refine g_iload C (pc' := 103) at_101 rfl rfl ?_
      refine g_ifN C (pc' := 106) at_103 rfl (by decide) rfl ?_
      refine g_aload C (pc' := 108) at_106 rfl rfl rfl ?_
      refine g_aload C (pc' := 110) at_108 rfl rfl rfl ?_
      refine g_interface C (pc' := 115) (k' := 8) (n' := 38) (argsL := [(.ref b1413)]) (rest := []) (wd hw 78 rfl) (wd hw 79 rfl) (wd hw 80 rfl) rfl (wd hw 81 rfl) (wd hw 82 rfl) (wd hw 83 rfl) (wd hw 84 rfl) (wd hw 85 rfl) (wd hw 56 rfl) (wd hw 86 rfl) (by decide) at_110 pd_7 rfl rfl rfl f1974 (add_0 l Z a0 hw n0 h1967 f1970 s_DEF s_EL s_EA s_EM cs mr H b1486 (0 : Int32) b1413 f1971 f1975) (Nat.le_of_ble_eq_true rfl) (Nat.le_of_ble_eq_true rfl) (Nat.le_of_ble_eq_true rfl) (Nat.le_of_ble_eq_true rfl) rfl rfl rfl (fun v2065 h2064 q2066 => ?_)
      obtain ⟨rfl, K2059, ed2061, kE2062, hg2063, P2060⟩ := q2066
      have ne_b1413_ed2061 : b1413 ≠ ed2061 := Nat.ne_of_lt (Nat.lt_of_lt_of_le f1971.lt hg2063)
      have ne_b1420_ed2061 : b1420 ≠ ed2061 := Nat.ne_of_lt (Nat.lt_of_lt_of_le f1972.lt hg2063)
      have ne_b1468_ed2061 : b1468 ≠ ed2061 := Nat.ne_of_lt (Nat.lt_of_lt_of_le f1973.lt hg2063)
      have ne_b1486_ed2061 : b1486 ≠ ed2061 := Nat.ne_of_lt (Nat.lt_of_lt_of_le f1974.lt hg2063)
      have ne_ed1952_ed2061 : ed1952 ≠ ed2061 := Nat.ne_of_lt (Nat.lt_of_lt_of_le f1976.lt hg2063)
      have ge_ed2061 : n0 ≤ ed2061 := Nat.le_trans (f1970.1 ▸ f1970.2.1) hg2063
      have f2067 := f1970.keep K2059 (allS ge_b1486 all0)
      have f2068 := f1971.keep K2059
      have f2069 := f1972.keep K2059
      have f2070 := f1973.keep K2059
      have f2071 := f1974.keep K2059
      have f2072 := f1976.keep K2059
      have f2073 := own_AL1_keep P1966 K2059 (ninS ne_b1468_b1486 nin0) (ninS (Ne.symm ne_b1486_ed1952) nin0)
      have E2074 := P2060.2.2.2.2.2.1
      show G w _ h2064 8 38 115 #[.val (.int p0), .val (.int p1), .val (.int p2), .val (.int (2 : Int32)), .val (.int (2 : Int32)), .val (.ref b1413), .val (.ref b1468), .val (.ref b1486), .unset, .unset] [(.int (1 : Int32))]
      refine g_pop C (pc' := 116) at_115 rfl rfl rfl ?_
      refine g_iload C (pc' := 118) at_116 rfl rfl ?_
      refine g_iconst C (pc' := 119) (v := (1 : Int32)) at_118 (by decide) rfl ?_
      refine g_icN C (pc' := 122) at_119 rfl (by decide) rfl ?_
      refine g_aload C (pc' := 124) at_122 rfl rfl rfl ?_
      refine g_aload C (pc' := 126) at_124 rfl rfl rfl ?_
      refine g_interface C (pc' := 131) (k' := 8) (n' := 38) (argsL := [(.ref b1413)]) (rest := []) (wd hw 78 rfl) (wd hw 79 rfl) (wd hw 80 rfl) rfl (wd hw 81 rfl) (wd hw 82 rfl) (wd hw 83 rfl) (wd hw 84 rfl) (wd hw 85 rfl) (wd hw 56 rfl) (wd hw 86 rfl) (by decide) at_126 pd_7 rfl rfl rfl f2071 (add_1 l Z a0 hw n0 h2064 f2067 s_DEF s_EL s_EA s_EM cs mr H b1486 ed2061 kE2062 ((0 : Int32) + (1 : Int32)) b1413 b1413 f2068 P2060) (Nat.le_of_ble_eq_true rfl) (Nat.le_of_ble_eq_true rfl) (Nat.le_of_ble_eq_true rfl) (Nat.le_of_ble_eq_true rfl) rfl rfl rfl (fun v2078 h2077 q2079 => ?_)
      obtain ⟨rfl, K2075, P2076⟩ := q2079
      have f2080 := f2067.keep K2075 (allS ge_b1486 (allS ge_ed2061 all0))
      have f2081 := f2068.keep K2075
      have f2082 := f2069.keep K2075
      have f2083 := f2070.keep K2075
      have f2084 := f2071.keep K2075
      have f2085 := f2072.keep K2075
      have f2086 := own_AL1_keep f2073 K2075 (ninS ne_b1468_b1486 (ninS ne_b1468_ed2061 nin0)) (ninS (Ne.symm ne_b1486_ed1952) (ninS ne_ed1952_ed2061 nin0))
      have f2087 := E2074.keep K2075
      show G w _ h2077 8 38 131 #[.val (.int p0), .val (.int p1), .val (.int p2), .val (.int (2 : Int32)), .val (.int (2 : Int32)), .val (.ref b1413), .val (.ref b1468), .val (.ref b1486), .unset, .unset] [(.int (1 : Int32))]
      refine g_pop C (pc' := 132) at_131 rfl rfl rfl ?_
      refine g_iload C (pc' := 134) at_132 rfl rfl ?_
      refine g_iconst C (pc' := 135) (v := (2 : Int32)) at_134 (by decide) rfl ?_
      refine g_icY C (pc' := 148) at_135 rfl (by decide) (by decide) rfl ?_
      refine g_new C (pc' := 151) (k' := 9) (n' := 40) (wd hw 113 rfl) (wd hw 114 rfl) (wd hw 115 rfl) at_148 (by decide) (by decide) rfl rfl rfl (fun h2088 b2089 ex2090 E2091 A2092 D2093 => ?_)
      have ne_b1413_b2089 : b1413 ≠ b2089 := Nat.ne_of_lt (by rw [ex2090]; exact f2081.lt)
      have ne_b1420_b2089 : b1420 ≠ b2089 := Nat.ne_of_lt (by rw [ex2090]; exact f2082.lt)
      have ne_b1468_b2089 : b1468 ≠ b2089 := Nat.ne_of_lt (by rw [ex2090]; exact f2083.lt)
      have ne_b1486_b2089 : b1486 ≠ b2089 := Nat.ne_of_lt (by rw [ex2090]; exact f2084.lt)
      have ne_ed1952_b2089 : ed1952 ≠ b2089 := Nat.ne_of_lt (by rw [ex2090]; exact f2085.lt)
      have ne_ed2061_b2089 : ed2061 ≠ b2089 := Nat.ne_of_lt (by rw [ex2090]; exact f2087.lt)
      have ge_b2089 : n0 ≤ b2089 := by rw [ex2090]; exact f2080.1 ▸ f2080.2.1
      have f2094 := f2080.ext E2091
      have f2095 := f2081.ext E2091
      have f2096 := f2082.ext E2091
      have f2097 := f2083.ext E2091
      have f2098 := f2084.ext E2091
      have f2099 := f2085.ext E2091
      have f2100 := own_AL1_ext f2086 E2091
      have f2101 := f2087.ext E2091
      have f2102 := own_AL1_ext P2076 E2091
      have F_area_b2089 : Fld Z h2088 b2089 "com/example/plumbline/plumbline/Grades" "area" "Ljava/util/List;" .null := D2093 (Or.inr (wd hw 148 rfl)) (ty := (.object "java/util/List")) (by decide)
      have F_total_b2089 : Fld Z h2088 b2089 "com/example/plumbline/plumbline/Grades" "total" "Ljava/util/List;" .null := D2093 (Or.inr (wd hw 215 rfl)) (ty := (.object "java/util/List")) (by decide)
      refine g_dup C (pc' := 152) at_151 rfl rfl rfl ?_
      refine g_aload C (pc' := 154) at_152 rfl rfl rfl ?_
      refine g_aload C (pc' := 156) at_154 rfl rfl rfl ?_
      refine g_special C (pc' := 159) (k' := 13) (n' := 48) (argsL := [(.ref b1468), (.ref b1486)]) (rest := [(.ref b2089)]) (wd hw 116 rfl) (wd hw 117 rfl) (wd hw 115 rfl) (wd hw 118 rfl) (by decide) rfl at_156 pd_12 rfl rfl rfl (gsI_22 l Z a0 hw n0 h2088 f2094 s_DEF s_EL s_EA s_EM cs mr H b2089 b1413 ge_b2089 b1468 ed1952 kE1953 (((0 : Int32) + (1 : Int32)) + (1 : Int32)) b1486 ed2061 kE2062 (((0 : Int32) + (1 : Int32)) + (1 : Int32)) A2092 F_area_b2089 F_total_b2089 f2095 f2100 f2102 (Ne.symm ne_b1468_b2089) (Ne.symm ne_b1486_b2089) (Ne.symm ne_ed1952_b2089) (Ne.symm ne_ed2061_b2089)) (Nat.le_of_ble_eq_true rfl) (Nat.le_of_ble_eq_true rfl) (Nat.le_of_ble_eq_true rfl) (Nat.le_of_ble_eq_true rfl) rfl rfl rfl (fun v2107 h2106 q2108 => ?_)
      obtain ⟨rfl, K2103, E2104, L, F2105, EL⟩ := q2108
      have f2109 := f2094.keep K2103 (allS ge_b2089 all0)
      have f2110 := f2095.keep K2103
      have f2111 := f2096.keep K2103
      have f2112 := f2097.keep K2103
      have f2113 := f2098.keep K2103
      have f2114 := f2099.keep K2103
      have f2115 := own_AL1_keep f2100 K2103 (ninS ne_b1468_b2089 nin0) (ninS ne_ed1952_b2089 nin0)
      have f2116 := f2101.keep K2103
      have f2117 := own_AL1_keep f2102 K2103 (ninS ne_b1486_b2089 nin0) (ninS ne_ed2061_b2089 nin0)
      have f2118 := A2092.keep K2103
      show G w _ h2106 13 48 159 #[.val (.int p0), .val (.int p1), .val (.int p2), .val (.int (2 : Int32)), .val (.int (2 : Int32)), .val (.ref b1413), .val (.ref b1468), .val (.ref b1486), .unset, .unset] [(.ref b2089)]
      refine g_astore C (pc' := 161) (Ls' := #[.val (.int p0), .val (.int p1), .val (.int p2), .val (.int (2 : Int32)), .val (.int (2 : Int32)), .val (.ref b1413), .val (.ref b1468), .val (.ref b1486), .val (.ref b2089), .unset]) at_159 rfl rfl rfl rfl ?_
      refine g_iloadN C (pc' := 162) at_161 rfl rfl ?_
      refine g_ifN C (pc' := 165) at_162 rfl (by decide) rfl ?_
      refine g_iconst C (pc' := 166) (v := (1 : Int32)) at_165 (by decide) rfl ?_
      refine g_goto C (pc' := 170) at_166 (by decide) rfl ?_
      refine g_istore C (pc' := 172) (Ls' := #[.val (.int p0), .val (.int p1), .val (.int p2), .val (.int (2 : Int32)), .val (.int (2 : Int32)), .val (.ref b1413), .val (.ref b1468), .val (.ref b1486), .val (.ref b2089), .val (.int (1 : Int32))]) at_170 rfl rfl rfl ?_
      refine g_aload C (pc' := 174) at_172 rfl rfl rfl ?_
      refine g_virtual C (pc' := 177) (k' := 13) (n' := 48) (argsL := []) (rest := []) (wd hw 216 rfl) (wd hw 217 rfl) (nfSel (wd hw 219 rfl)) (wd hw 219 rfl) (wd hw 218 rfl) (wd hw 115 rfl) (wd hw 220 rfl) (by decide) at_174 pd_14 rfl rfl rfl E2104 (gr_2 l Z a0 hw n0 h2106 f2109 s_DEF s_EL s_EA s_EM cs mr H b2089 E2104 L F2105 EL) (Nat.le_of_ble_eq_true rfl) (Nat.le_of_ble_eq_true rfl) (Nat.le_of_ble_eq_true rfl) (Nat.le_of_ble_eq_true rfl) rfl rfl rfl (fun v2120 h2119 q2121 => ?_)
      obtain ⟨rfl, eh2119⟩ := q2121
      subst h2119
      show G w _ h2106 13 48 177 #[.val (.int p0), .val (.int p1), .val (.int p2), .val (.int (2 : Int32)), .val (.int (2 : Int32)), .val (.ref b1413), .val (.ref b1468), .val (.ref b1486), .val (.ref b2089), .val (.int (1 : Int32))] [(.int (1 : Int32))]
      refine g_iload C (pc' := 179) at_177 rfl rfl ?_
      refine g_icN C (pc' := 182) at_179 rfl (by decide) rfl ?_
      refine g_iconst C (pc' := 183) (v := (1 : Int32)) at_182 (by decide) rfl ?_
      refine g_goto C (pc' := 187) at_183 (by decide) rfl ?_
      exact g_zreturn C at_187 rfl rfl (Nat.le_of_ble_eq_true rfl) (Nat.le_of_ble_eq_true rfl) (rfl)
    · rw [e4]
      refine g_iload C (pc' := 103) at_101 rfl rfl ?_
      refine g_ifN C (pc' := 106) at_103 rfl (by decide) rfl ?_
      refine g_aload C (pc' := 108) at_106 rfl rfl rfl ?_
      refine g_aload C (pc' := 110) at_108 rfl rfl rfl ?_
      refine g_interface C (pc' := 115) (k' := 8) (n' := 38) (argsL := [(.ref b1413)]) (rest := []) (wd hw 78 rfl) (wd hw 79 rfl) (wd hw 80 rfl) rfl (wd hw 81 rfl) (wd hw 82 rfl) (wd hw 83 rfl) (wd hw 84 rfl) (wd hw 85 rfl) (wd hw 56 rfl) (wd hw 86 rfl) (by decide) at_110 pd_7 rfl rfl rfl f1974 (add_0 l Z a0 hw n0 h1967 f1970 s_DEF s_EL s_EA s_EM cs mr H b1486 (0 : Int32) b1413 f1971 f1975) (Nat.le_of_ble_eq_true rfl) (Nat.le_of_ble_eq_true rfl) (Nat.le_of_ble_eq_true rfl) (Nat.le_of_ble_eq_true rfl) rfl rfl rfl (fun v2128 h2127 q2129 => ?_)
      obtain ⟨rfl, K2122, ed2124, kE2125, hg2126, P2123⟩ := q2129
      have ne_b1413_ed2124 : b1413 ≠ ed2124 := Nat.ne_of_lt (Nat.lt_of_lt_of_le f1971.lt hg2126)
      have ne_b1420_ed2124 : b1420 ≠ ed2124 := Nat.ne_of_lt (Nat.lt_of_lt_of_le f1972.lt hg2126)
      have ne_b1468_ed2124 : b1468 ≠ ed2124 := Nat.ne_of_lt (Nat.lt_of_lt_of_le f1973.lt hg2126)
      have ne_b1486_ed2124 : b1486 ≠ ed2124 := Nat.ne_of_lt (Nat.lt_of_lt_of_le f1974.lt hg2126)
      have ne_ed1952_ed2124 : ed1952 ≠ ed2124 := Nat.ne_of_lt (Nat.lt_of_lt_of_le f1976.lt hg2126)
      have ge_ed2124 : n0 ≤ ed2124 := Nat.le_trans (f1970.1 ▸ f1970.2.1) hg2126
      have f2130 := f1970.keep K2122 (allS ge_b1486 all0)
      have f2131 := f1971.keep K2122
      have f2132 := f1972.keep K2122
      have f2133 := f1973.keep K2122
      have f2134 := f1974.keep K2122
      have f2135 := f1976.keep K2122
      have f2136 := own_AL1_keep P1966 K2122 (ninS ne_b1468_b1486 nin0) (ninS (Ne.symm ne_b1486_ed1952) nin0)
      have E2137 := P2123.2.2.2.2.2.1
      show G w _ h2127 8 38 115 #[.val (.int p0), .val (.int p1), .val (.int p2), .val (.int (2 : Int32)), .val (.int (3 : Int32)), .val (.ref b1413), .val (.ref b1468), .val (.ref b1486), .unset, .unset] [(.int (1 : Int32))]
      refine g_pop C (pc' := 116) at_115 rfl rfl rfl ?_
      refine g_iload C (pc' := 118) at_116 rfl rfl ?_
      refine g_iconst C (pc' := 119) (v := (1 : Int32)) at_118 (by decide) rfl ?_
      refine g_icN C (pc' := 122) at_119 rfl (by decide) rfl ?_
      refine g_aload C (pc' := 124) at_122 rfl rfl rfl ?_
      refine g_aload C (pc' := 126) at_124 rfl rfl rfl ?_
      refine g_interface C (pc' := 131) (k' := 8) (n' := 38) (argsL := [(.ref b1413)]) (rest := []) (wd hw 78 rfl) (wd hw 79 rfl) (wd hw 80 rfl) rfl (wd hw 81 rfl) (wd hw 82 rfl) (wd hw 83 rfl) (wd hw 84 rfl) (wd hw 85 rfl) (wd hw 56 rfl) (wd hw 86 rfl) (by decide) at_126 pd_7 rfl rfl rfl f2134 (add_1 l Z a0 hw n0 h2127 f2130 s_DEF s_EL s_EA s_EM cs mr H b1486 ed2124 kE2125 ((0 : Int32) + (1 : Int32)) b1413 b1413 f2131 P2123) (Nat.le_of_ble_eq_true rfl) (Nat.le_of_ble_eq_true rfl) (Nat.le_of_ble_eq_true rfl) (Nat.le_of_ble_eq_true rfl) rfl rfl rfl (fun v2141 h2140 q2142 => ?_)
      obtain ⟨rfl, K2138, P2139⟩ := q2142
      have f2143 := f2130.keep K2138 (allS ge_b1486 (allS ge_ed2124 all0))
      have f2144 := f2131.keep K2138
      have f2145 := f2132.keep K2138
      have f2146 := f2133.keep K2138
      have f2147 := f2134.keep K2138
      have f2148 := f2135.keep K2138
      have f2149 := own_AL1_keep f2136 K2138 (ninS ne_b1468_b1486 (ninS ne_b1468_ed2124 nin0)) (ninS (Ne.symm ne_b1486_ed1952) (ninS ne_ed1952_ed2124 nin0))
      have f2150 := E2137.keep K2138
      show G w _ h2140 8 38 131 #[.val (.int p0), .val (.int p1), .val (.int p2), .val (.int (2 : Int32)), .val (.int (3 : Int32)), .val (.ref b1413), .val (.ref b1468), .val (.ref b1486), .unset, .unset] [(.int (1 : Int32))]
      refine g_pop C (pc' := 132) at_131 rfl rfl rfl ?_
      refine g_iload C (pc' := 134) at_132 rfl rfl ?_
      refine g_iconst C (pc' := 135) (v := (2 : Int32)) at_134 (by decide) rfl ?_
      refine g_icN C (pc' := 138) at_135 rfl (by decide) rfl ?_
      refine g_aload C (pc' := 140) at_138 rfl rfl rfl ?_
      refine g_aload C (pc' := 142) at_140 rfl rfl rfl ?_
      refine g_interface C (pc' := 147) (k' := 8) (n' := 38) (argsL := [(.ref b1413)]) (rest := []) (wd hw 78 rfl) (wd hw 79 rfl) (wd hw 80 rfl) rfl (wd hw 81 rfl) (wd hw 82 rfl) (wd hw 83 rfl) (wd hw 84 rfl) (wd hw 85 rfl) (wd hw 56 rfl) (wd hw 86 rfl) (by decide) at_142 pd_7 rfl rfl rfl f2147 (add_2 l Z a0 hw n0 h2140 f2143 s_DEF s_EL s_EA s_EM cs mr H b1486 ed2124 kE2125 (((0 : Int32) + (1 : Int32)) + (1 : Int32)) b1413 b1413 b1413 f2144 P2139) (Nat.le_of_ble_eq_true rfl) (Nat.le_of_ble_eq_true rfl) (Nat.le_of_ble_eq_true rfl) (Nat.le_of_ble_eq_true rfl) rfl rfl rfl (fun v2154 h2153 q2155 => ?_)
      obtain ⟨rfl, K2151, P2152⟩ := q2155
      have f2156 := f2143.keep K2151 (allS ge_b1486 (allS ge_ed2124 all0))
      have f2157 := f2144.keep K2151
      have f2158 := f2145.keep K2151
      have f2159 := f2146.keep K2151
      have f2160 := f2147.keep K2151
      have f2161 := f2148.keep K2151
      have f2162 := own_AL1_keep f2149 K2151 (ninS ne_b1468_b1486 (ninS ne_b1468_ed2124 nin0)) (ninS (Ne.symm ne_b1486_ed1952) (ninS ne_ed1952_ed2124 nin0))
      have f2163 := f2150.keep K2151
      show G w _ h2153 8 38 147 #[.val (.int p0), .val (.int p1), .val (.int p2), .val (.int (2 : Int32)), .val (.int (3 : Int32)), .val (.ref b1413), .val (.ref b1468), .val (.ref b1486), .unset, .unset] [(.int (1 : Int32))]
      refine g_pop C (pc' := 148) at_147 rfl rfl rfl ?_
      refine g_new C (pc' := 151) (k' := 9) (n' := 40) (wd hw 113 rfl) (wd hw 114 rfl) (wd hw 115 rfl) at_148 (by decide) (by decide) rfl rfl rfl (fun h2164 b2165 ex2166 E2167 A2168 D2169 => ?_)
      have ne_b1413_b2165 : b1413 ≠ b2165 := Nat.ne_of_lt (by rw [ex2166]; exact f2157.lt)
      have ne_b1420_b2165 : b1420 ≠ b2165 := Nat.ne_of_lt (by rw [ex2166]; exact f2158.lt)
      have ne_b1468_b2165 : b1468 ≠ b2165 := Nat.ne_of_lt (by rw [ex2166]; exact f2159.lt)
      have ne_b1486_b2165 : b1486 ≠ b2165 := Nat.ne_of_lt (by rw [ex2166]; exact f2160.lt)
      have ne_ed1952_b2165 : ed1952 ≠ b2165 := Nat.ne_of_lt (by rw [ex2166]; exact f2161.lt)
      have ne_ed2124_b2165 : ed2124 ≠ b2165 := Nat.ne_of_lt (by rw [ex2166]; exact f2163.lt)
      have ge_b2165 : n0 ≤ b2165 := by rw [ex2166]; exact f2156.1 ▸ f2156.2.1
      have f2170 := f2156.ext E2167
      have f2171 := f2157.ext E2167
      have f2172 := f2158.ext E2167
      have f2173 := f2159.ext E2167
      have f2174 := f2160.ext E2167
      have f2175 := f2161.ext E2167
      have f2176 := own_AL1_ext f2162 E2167
      have f2177 := f2163.ext E2167
      have f2178 := own_AL1_ext P2152 E2167
      have F_area_b2165 : Fld Z h2164 b2165 "com/example/plumbline/plumbline/Grades" "area" "Ljava/util/List;" .null := D2169 (Or.inr (wd hw 148 rfl)) (ty := (.object "java/util/List")) (by decide)
      have F_total_b2165 : Fld Z h2164 b2165 "com/example/plumbline/plumbline/Grades" "total" "Ljava/util/List;" .null := D2169 (Or.inr (wd hw 215 rfl)) (ty := (.object "java/util/List")) (by decide)
      refine g_dup C (pc' := 152) at_151 rfl rfl rfl ?_
      refine g_aload C (pc' := 154) at_152 rfl rfl rfl ?_
      refine g_aload C (pc' := 156) at_154 rfl rfl rfl ?_
      refine g_special C (pc' := 159) (k' := 14) (n' := 52) (argsL := [(.ref b1468), (.ref b1486)]) (rest := [(.ref b2165)]) (wd hw 116 rfl) (wd hw 117 rfl) (wd hw 115 rfl) (wd hw 118 rfl) (by decide) rfl at_156 pd_12 rfl rfl rfl (gsI_23 l Z a0 hw n0 h2164 f2170 s_DEF s_EL s_EA s_EM cs mr H b2165 b1413 ge_b2165 b1468 ed1952 kE1953 (((0 : Int32) + (1 : Int32)) + (1 : Int32)) b1486 ed2124 kE2125 ((((0 : Int32) + (1 : Int32)) + (1 : Int32)) + (1 : Int32)) A2168 F_area_b2165 F_total_b2165 f2171 f2176 f2178 (Ne.symm ne_b1468_b2165) (Ne.symm ne_b1486_b2165) (Ne.symm ne_ed1952_b2165) (Ne.symm ne_ed2124_b2165)) (Nat.le_of_ble_eq_true rfl) (Nat.le_of_ble_eq_true rfl) (Nat.le_of_ble_eq_true rfl) (Nat.le_of_ble_eq_true rfl) rfl rfl rfl (fun v2183 h2182 q2184 => ?_)
      obtain ⟨rfl, K2179, E2180, L, F2181, EL⟩ := q2184
      have f2185 := f2170.keep K2179 (allS ge_b2165 all0)
      have f2186 := f2171.keep K2179
      have f2187 := f2172.keep K2179
      have f2188 := f2173.keep K2179
      have f2189 := f2174.keep K2179
      have f2190 := f2175.keep K2179
      have f2191 := own_AL1_keep f2176 K2179 (ninS ne_b1468_b2165 nin0) (ninS ne_ed1952_b2165 nin0)
      have f2192 := f2177.keep K2179
      have f2193 := own_AL1_keep f2178 K2179 (ninS ne_b1486_b2165 nin0) (ninS ne_ed2124_b2165 nin0)
      have f2194 := A2168.keep K2179
      show G w _ h2182 14 52 159 #[.val (.int p0), .val (.int p1), .val (.int p2), .val (.int (2 : Int32)), .val (.int (3 : Int32)), .val (.ref b1413), .val (.ref b1468), .val (.ref b1486), .unset, .unset] [(.ref b2165)]
      refine g_astore C (pc' := 161) (Ls' := #[.val (.int p0), .val (.int p1), .val (.int p2), .val (.int (2 : Int32)), .val (.int (3 : Int32)), .val (.ref b1413), .val (.ref b1468), .val (.ref b1486), .val (.ref b2165), .unset]) at_159 rfl rfl rfl rfl ?_
      refine g_iloadN C (pc' := 162) at_161 rfl rfl ?_
      refine g_ifN C (pc' := 165) at_162 rfl (by decide) rfl ?_
      refine g_iconst C (pc' := 166) (v := (1 : Int32)) at_165 (by decide) rfl ?_
      refine g_goto C (pc' := 170) at_166 (by decide) rfl ?_
      refine g_istore C (pc' := 172) (Ls' := #[.val (.int p0), .val (.int p1), .val (.int p2), .val (.int (2 : Int32)), .val (.int (3 : Int32)), .val (.ref b1413), .val (.ref b1468), .val (.ref b1486), .val (.ref b2165), .val (.int (1 : Int32))]) at_170 rfl rfl rfl ?_
      refine g_aload C (pc' := 174) at_172 rfl rfl rfl ?_
      refine g_virtual C (pc' := 177) (k' := 14) (n' := 52) (argsL := []) (rest := []) (wd hw 216 rfl) (wd hw 217 rfl) (nfSel (wd hw 219 rfl)) (wd hw 219 rfl) (wd hw 218 rfl) (wd hw 115 rfl) (wd hw 220 rfl) (by decide) at_174 pd_14 rfl rfl rfl E2180 (gr_2 l Z a0 hw n0 h2182 f2185 s_DEF s_EL s_EA s_EM cs mr H b2165 E2180 L F2181 EL) (Nat.le_of_ble_eq_true rfl) (Nat.le_of_ble_eq_true rfl) (Nat.le_of_ble_eq_true rfl) (Nat.le_of_ble_eq_true rfl) rfl rfl rfl (fun v2196 h2195 q2197 => ?_)
      obtain ⟨rfl, eh2195⟩ := q2197
      subst h2195
      show G w _ h2182 14 52 177 #[.val (.int p0), .val (.int p1), .val (.int p2), .val (.int (2 : Int32)), .val (.int (3 : Int32)), .val (.ref b1413), .val (.ref b1468), .val (.ref b1486), .val (.ref b2165), .val (.int (1 : Int32))] [(.int (1 : Int32))]
      refine g_iload C (pc' := 179) at_177 rfl rfl ?_
      refine g_icN C (pc' := 182) at_179 rfl (by decide) rfl ?_
      refine g_iconst C (pc' := 183) (v := (1 : Int32)) at_182 (by decide) rfl ?_
      refine g_goto C (pc' := 187) at_183 (by decide) rfl ?_
      exact g_zreturn C at_187 rfl rfl (Nat.le_of_ble_eq_true rfl) (Nat.le_of_ble_eq_true rfl) (rfl)
  · rw [e4]
    refine g_iloadN C (pc' := 58) at_57 rfl rfl ?_
    refine g_ifN C (pc' := 61) at_58 rfl (by decide) rfl ?_
    refine g_aload C (pc' := 63) at_61 rfl rfl rfl ?_
    refine g_aload C (pc' := 65) at_63 rfl rfl rfl ?_
    refine g_interface C (pc' := 70) (k' := 7) (n' := 28) (argsL := [(.ref b1413)]) (rest := []) (wd hw 78 rfl) (wd hw 79 rfl) (wd hw 80 rfl) rfl (wd hw 81 rfl) (wd hw 82 rfl) (wd hw 83 rfl) (wd hw 84 rfl) (wd hw 85 rfl) (wd hw 56 rfl) (wd hw 86 rfl) (by decide) at_65 pd_7 rfl rfl rfl f1504 (add_0 l Z a0 hw n0 h1498 f1501 s_DEF s_EL s_EA s_EM cs mr H b1468 (0 : Int32) b1413 f1502 f1505) (Nat.le_of_ble_eq_true rfl) (Nat.le_of_ble_eq_true rfl) (Nat.le_of_ble_eq_true rfl) (Nat.le_of_ble_eq_true rfl) rfl rfl rfl (fun v2204 h2203 q2205 => ?_)
    obtain ⟨rfl, K2198, ed2200, kE2201, hg2202, P2199⟩ := q2205
    have ne_b1413_ed2200 : b1413 ≠ ed2200 := Nat.ne_of_lt (Nat.lt_of_lt_of_le f1502.lt hg2202)
    have ne_b1420_ed2200 : b1420 ≠ ed2200 := Nat.ne_of_lt (Nat.lt_of_lt_of_le f1503.lt hg2202)
    have ne_b1468_ed2200 : b1468 ≠ ed2200 := Nat.ne_of_lt (Nat.lt_of_lt_of_le f1504.lt hg2202)
    have ne_b1486_ed2200 : b1486 ≠ ed2200 := Nat.ne_of_lt (Nat.lt_of_lt_of_le f1506.lt hg2202)
    have ge_ed2200 : n0 ≤ ed2200 := Nat.le_trans (f1501.1 ▸ f1501.2.1) hg2202
    have f2206 := f1501.keep K2198 (allS ge_b1468 all0)
    have f2207 := f1502.keep K2198
    have f2208 := f1503.keep K2198
    have f2209 := f1504.keep K2198
    have f2210 := f1506.keep K2198
    have f2211 := own_AL0_keep P1497 K2198 (ninS (Ne.symm ne_b1468_b1486) nin0)
    have E2212 := P2199.2.2.2.2.2.1
    show G w _ h2203 7 28 70 #[.val (.int p0), .val (.int p1), .val (.int p2), .val (.int (3 : Int32)), .val (.int (p1 &&& (3 : Int32))), .val (.ref b1413), .val (.ref b1468), .val (.ref b1486), .unset, .unset] [(.int (1 : Int32))]
    refine g_pop C (pc' := 71) at_70 rfl rfl rfl ?_
    refine g_iloadN C (pc' := 72) at_71 rfl rfl ?_
    refine g_iconst C (pc' := 73) (v := (1 : Int32)) at_72 (by decide) rfl ?_
    refine g_icN C (pc' := 76) at_73 rfl (by decide) rfl ?_
    refine g_aload C (pc' := 78) at_76 rfl rfl rfl ?_
    refine g_aload C (pc' := 80) at_78 rfl rfl rfl ?_
    refine g_interface C (pc' := 85) (k' := 7) (n' := 28) (argsL := [(.ref b1413)]) (rest := []) (wd hw 78 rfl) (wd hw 79 rfl) (wd hw 80 rfl) rfl (wd hw 81 rfl) (wd hw 82 rfl) (wd hw 83 rfl) (wd hw 84 rfl) (wd hw 85 rfl) (wd hw 56 rfl) (wd hw 86 rfl) (by decide) at_80 pd_7 rfl rfl rfl f2209 (add_1 l Z a0 hw n0 h2203 f2206 s_DEF s_EL s_EA s_EM cs mr H b1468 ed2200 kE2201 ((0 : Int32) + (1 : Int32)) b1413 b1413 f2207 P2199) (Nat.le_of_ble_eq_true rfl) (Nat.le_of_ble_eq_true rfl) (Nat.le_of_ble_eq_true rfl) (Nat.le_of_ble_eq_true rfl) rfl rfl rfl (fun v2216 h2215 q2217 => ?_)
    obtain ⟨rfl, K2213, P2214⟩ := q2217
    have f2218 := f2206.keep K2213 (allS ge_b1468 (allS ge_ed2200 all0))
    have f2219 := f2207.keep K2213
    have f2220 := f2208.keep K2213
    have f2221 := f2209.keep K2213
    have f2222 := f2210.keep K2213
    have f2223 := own_AL0_keep f2211 K2213 (ninS (Ne.symm ne_b1468_b1486) (ninS ne_b1486_ed2200 nin0))
    have f2224 := E2212.keep K2213
    show G w _ h2215 7 28 85 #[.val (.int p0), .val (.int p1), .val (.int p2), .val (.int (3 : Int32)), .val (.int (p1 &&& (3 : Int32))), .val (.ref b1413), .val (.ref b1468), .val (.ref b1486), .unset, .unset] [(.int (1 : Int32))]
    refine g_pop C (pc' := 86) at_85 rfl rfl rfl ?_
    refine g_iloadN C (pc' := 87) at_86 rfl rfl ?_
    refine g_iconst C (pc' := 88) (v := (2 : Int32)) at_87 (by decide) rfl ?_
    refine g_icN C (pc' := 91) at_88 rfl (by decide) rfl ?_
    refine g_aload C (pc' := 93) at_91 rfl rfl rfl ?_
    refine g_aload C (pc' := 95) at_93 rfl rfl rfl ?_
    refine g_interface C (pc' := 100) (k' := 7) (n' := 28) (argsL := [(.ref b1413)]) (rest := []) (wd hw 78 rfl) (wd hw 79 rfl) (wd hw 80 rfl) rfl (wd hw 81 rfl) (wd hw 82 rfl) (wd hw 83 rfl) (wd hw 84 rfl) (wd hw 85 rfl) (wd hw 56 rfl) (wd hw 86 rfl) (by decide) at_95 pd_7 rfl rfl rfl f2221 (add_2 l Z a0 hw n0 h2215 f2218 s_DEF s_EL s_EA s_EM cs mr H b1468 ed2200 kE2201 (((0 : Int32) + (1 : Int32)) + (1 : Int32)) b1413 b1413 b1413 f2219 P2214) (Nat.le_of_ble_eq_true rfl) (Nat.le_of_ble_eq_true rfl) (Nat.le_of_ble_eq_true rfl) (Nat.le_of_ble_eq_true rfl) rfl rfl rfl (fun v2228 h2227 q2229 => ?_)
    obtain ⟨rfl, K2225, P2226⟩ := q2229
    have f2230 := f2218.keep K2225 (allS ge_b1468 (allS ge_ed2200 all0))
    have f2231 := f2219.keep K2225
    have f2232 := f2220.keep K2225
    have f2233 := f2221.keep K2225
    have f2234 := f2222.keep K2225
    have f2235 := own_AL0_keep f2223 K2225 (ninS (Ne.symm ne_b1468_b1486) (ninS ne_b1486_ed2200 nin0))
    have f2236 := f2224.keep K2225
    show G w _ h2227 7 28 100 #[.val (.int p0), .val (.int p1), .val (.int p2), .val (.int (3 : Int32)), .val (.int (p1 &&& (3 : Int32))), .val (.ref b1413), .val (.ref b1468), .val (.ref b1486), .unset, .unset] [(.int (1 : Int32))]
    refine g_pop C (pc' := 101) at_100 rfl rfl rfl ?_
    rcases own_and3 p1 with e4 | e4 | e4 | e4
    · rw [e4]
      refine g_iload C (pc' := 103) at_101 rfl rfl ?_
      refine g_ifY C (pc' := 116) at_103 rfl (by decide) (by decide) rfl ?_
      refine g_iload C (pc' := 118) at_116 rfl rfl ?_
      refine g_iconst C (pc' := 119) (v := (1 : Int32)) at_118 (by decide) rfl ?_
      refine g_icY C (pc' := 132) at_119 rfl (by decide) (by decide) rfl ?_
      refine g_iload C (pc' := 134) at_132 rfl rfl ?_
      refine g_iconst C (pc' := 135) (v := (2 : Int32)) at_134 (by decide) rfl ?_
      refine g_icY C (pc' := 148) at_135 rfl (by decide) (by decide) rfl ?_
      refine g_new C (pc' := 151) (k' := 8) (n' := 30) (wd hw 113 rfl) (wd hw 114 rfl) (wd hw 115 rfl) at_148 (by decide) (by decide) rfl rfl rfl (fun h2237 b2238 ex2239 E2240 A2241 D2242 => ?_)
      have ne_b1413_b2238 : b1413 ≠ b2238 := Nat.ne_of_lt (by rw [ex2239]; exact f2231.lt)
      have ne_b1420_b2238 : b1420 ≠ b2238 := Nat.ne_of_lt (by rw [ex2239]; exact f2232.lt)
      have ne_b1468_b2238 : b1468 ≠ b2238 := Nat.ne_of_lt (by rw [ex2239]; exact f2233.lt)
      have ne_b1486_b2238 : b1486 ≠ b2238 := Nat.ne_of_lt (by rw [ex2239]; exact f2234.lt)
      have ne_ed2200_b2238 : ed2200 ≠ b2238 := Nat.ne_of_lt (by rw [ex2239]; exact f2236.lt)
      have ge_b2238 : n0 ≤ b2238 := by rw [ex2239]; exact f2230.1 ▸ f2230.2.1
      have f2243 := f2230.ext E2240
      have f2244 := f2231.ext E2240
      have f2245 := f2232.ext E2240
      have f2246 := f2233.ext E2240
      have f2247 := f2234.ext E2240
      have f2248 := own_AL0_ext f2235 E2240
      have f2249 := f2236.ext E2240
      have f2250 := own_AL1_ext P2226 E2240
      have F_area_b2238 : Fld Z h2237 b2238 "com/example/plumbline/plumbline/Grades" "area" "Ljava/util/List;" .null := D2242 (Or.inr (wd hw 148 rfl)) (ty := (.object "java/util/List")) (by decide)
      have F_total_b2238 : Fld Z h2237 b2238 "com/example/plumbline/plumbline/Grades" "total" "Ljava/util/List;" .null := D2242 (Or.inr (wd hw 215 rfl)) (ty := (.object "java/util/List")) (by decide)
      refine g_dup C (pc' := 152) at_151 rfl rfl rfl ?_
      refine g_aload C (pc' := 154) at_152 rfl rfl rfl ?_
      refine g_aload C (pc' := 156) at_154 rfl rfl rfl ?_
      refine g_special C (pc' := 159) (k' := 11) (n' := 38) (argsL := [(.ref b1468), (.ref b1486)]) (rest := [(.ref b2238)]) (wd hw 116 rfl) (wd hw 117 rfl) (wd hw 115 rfl) (wd hw 118 rfl) (by decide) rfl at_156 pd_12 rfl rfl rfl (gsI_30 l Z a0 hw n0 h2237 f2243 s_DEF s_EL s_EA s_EM cs mr H b2238 b1413 ge_b2238 b1468 ed2200 kE2201 ((((0 : Int32) + (1 : Int32)) + (1 : Int32)) + (1 : Int32)) b1486 (0 : Int32) A2241 F_area_b2238 F_total_b2238 f2244 f2250 f2248 (Ne.symm ne_b1468_b2238) (Ne.symm ne_b1486_b2238) (Ne.symm ne_ed2200_b2238)) (Nat.le_of_ble_eq_true rfl) (Nat.le_of_ble_eq_true rfl) (Nat.le_of_ble_eq_true rfl) (Nat.le_of_ble_eq_true rfl) rfl rfl rfl (fun v2255 h2254 q2256 => ?_)
      obtain ⟨rfl, K2251, E2252, L, ar, kA, F2253, EL, FL, AL_⟩ := q2256
      have f2257 := f2243.keep K2251 (allS ge_b2238 all0)
      have f2258 := f2244.keep K2251
      have f2259 := f2245.keep K2251
      have f2260 := f2246.keep K2251
      have f2261 := f2247.keep K2251
      have f2262 := own_AL0_keep f2248 K2251 (ninS ne_b1486_b2238 nin0)
      have f2263 := f2249.keep K2251
      have f2264 := own_AL1_keep f2250 K2251 (ninS ne_b1468_b2238 nin0) (ninS ne_ed2200_b2238 nin0)
      have f2265 := A2241.keep K2251
      show G w _ h2254 11 38 159 #[.val (.int p0), .val (.int p1), .val (.int p2), .val (.int (3 : Int32)), .val (.int (0 : Int32)), .val (.ref b1413), .val (.ref b1468), .val (.ref b1486), .unset, .unset] [(.ref b2238)]
      refine g_astore C (pc' := 161) (Ls' := #[.val (.int p0), .val (.int p1), .val (.int p2), .val (.int (3 : Int32)), .val (.int (0 : Int32)), .val (.ref b1413), .val (.ref b1468), .val (.ref b1486), .val (.ref b2238), .unset]) at_159 rfl rfl rfl rfl ?_
      refine g_iloadN C (pc' := 162) at_161 rfl rfl ?_
      refine g_ifN C (pc' := 165) at_162 rfl (by decide) rfl ?_
      refine g_iconst C (pc' := 166) (v := (1 : Int32)) at_165 (by decide) rfl ?_
      refine g_goto C (pc' := 170) at_166 (by decide) rfl ?_
      refine g_istore C (pc' := 172) (Ls' := #[.val (.int p0), .val (.int p1), .val (.int p2), .val (.int (3 : Int32)), .val (.int (0 : Int32)), .val (.ref b1413), .val (.ref b1468), .val (.ref b1486), .val (.ref b2238), .val (.int (1 : Int32))]) at_170 rfl rfl rfl ?_
      refine g_aload C (pc' := 174) at_172 rfl rfl rfl ?_
      refine g_virtual C (pc' := 177) (k' := 11) (n' := 38) (argsL := []) (rest := []) (wd hw 216 rfl) (wd hw 217 rfl) (nfSel (wd hw 219 rfl)) (wd hw 219 rfl) (wd hw 218 rfl) (wd hw 115 rfl) (wd hw 220 rfl) (by decide) at_174 pd_14 rfl rfl rfl E2252 (gr_3 l Z a0 hw n0 h2254 f2257 s_DEF s_EL s_EA s_EM cs mr H b2238 E2252 L ar kA b1413 F2253 EL FL AL_) (Nat.le_of_ble_eq_true rfl) (Nat.le_of_ble_eq_true rfl) (Nat.le_of_ble_eq_true rfl) (Nat.le_of_ble_eq_true rfl) rfl rfl rfl (fun v2267 h2266 q2268 => ?_)
      obtain ⟨rfl, eh2266⟩ := q2268
      subst h2266
      show G w _ h2254 11 38 177 #[.val (.int p0), .val (.int p1), .val (.int p2), .val (.int (3 : Int32)), .val (.int (0 : Int32)), .val (.ref b1413), .val (.ref b1468), .val (.ref b1486), .val (.ref b2238), .val (.int (1 : Int32))] [(.int (1 : Int32))]
      refine g_iload C (pc' := 179) at_177 rfl rfl ?_
      refine g_icN C (pc' := 182) at_179 rfl (by decide) rfl ?_
      refine g_iconst C (pc' := 183) (v := (1 : Int32)) at_182 (by decide) rfl ?_
      refine g_goto C (pc' := 187) at_183 (by decide) rfl ?_
      exact g_zreturn C at_187 rfl rfl (Nat.le_of_ble_eq_true rfl) (Nat.le_of_ble_eq_true rfl) (rfl)
    · rw [e4]
      refine g_iload C (pc' := 103) at_101 rfl rfl ?_
      refine g_ifN C (pc' := 106) at_103 rfl (by decide) rfl ?_
      refine g_aload C (pc' := 108) at_106 rfl rfl rfl ?_
      refine g_aload C (pc' := 110) at_108 rfl rfl rfl ?_
      refine g_interface C (pc' := 115) (k' := 8) (n' := 38) (argsL := [(.ref b1413)]) (rest := []) (wd hw 78 rfl) (wd hw 79 rfl) (wd hw 80 rfl) rfl (wd hw 81 rfl) (wd hw 82 rfl) (wd hw 83 rfl) (wd hw 84 rfl) (wd hw 85 rfl) (wd hw 56 rfl) (wd hw 86 rfl) (by decide) at_110 pd_7 rfl rfl rfl f2234 (add_0 l Z a0 hw n0 h2227 f2230 s_DEF s_EL s_EA s_EM cs mr H b1486 (0 : Int32) b1413 f2231 f2235) (Nat.le_of_ble_eq_true rfl) (Nat.le_of_ble_eq_true rfl) (Nat.le_of_ble_eq_true rfl) (Nat.le_of_ble_eq_true rfl) rfl rfl rfl (fun v2275 h2274 q2276 => ?_)
      obtain ⟨rfl, K2269, ed2271, kE2272, hg2273, P2270⟩ := q2276
      have ne_b1413_ed2271 : b1413 ≠ ed2271 := Nat.ne_of_lt (Nat.lt_of_lt_of_le f2231.lt hg2273)
      have ne_b1420_ed2271 : b1420 ≠ ed2271 := Nat.ne_of_lt (Nat.lt_of_lt_of_le f2232.lt hg2273)
      have ne_b1468_ed2271 : b1468 ≠ ed2271 := Nat.ne_of_lt (Nat.lt_of_lt_of_le f2233.lt hg2273)
      have ne_b1486_ed2271 : b1486 ≠ ed2271 := Nat.ne_of_lt (Nat.lt_of_lt_of_le f2234.lt hg2273)
      have ne_ed2200_ed2271 : ed2200 ≠ ed2271 := Nat.ne_of_lt (Nat.lt_of_lt_of_le f2236.lt hg2273)
      have ge_ed2271 : n0 ≤ ed2271 := Nat.le_trans (f2230.1 ▸ f2230.2.1) hg2273
      have f2277 := f2230.keep K2269 (allS ge_b1486 all0)
      have f2278 := f2231.keep K2269
      have f2279 := f2232.keep K2269
      have f2280 := f2233.keep K2269
      have f2281 := f2234.keep K2269
      have f2282 := f2236.keep K2269
      have f2283 := own_AL1_keep P2226 K2269 (ninS ne_b1468_b1486 nin0) (ninS (Ne.symm ne_b1486_ed2200) nin0)
      have E2284 := P2270.2.2.2.2.2.1
      show G w _ h2274 8 38 115 #[.val (.int p0), .val (.int p1), .val (.int p2), .val (.int (3 : Int32)), .val (.int (1 : Int32)), .val (.ref b1413), .val (.ref b1468), .val (.ref b1486), .unset, .unset] [(.int (1 : Int32))]
      refine g_pop C (pc' := 116) at_115 rfl rfl rfl ?_
      refine g_iload C (pc' := 118) at_116 rfl rfl ?_
      refine g_iconst C (pc' := 119) (v := (1 : Int32)) at_118 (by decide) rfl ?_
      refine g_icY C (pc' := 132) at_119 rfl (by decide) (by decide) rfl ?_
      refine g_iload C (pc' := 134) at_132 rfl rfl ?_
      refine g_iconst C (pc' := 135) (v := (2 : Int32)) at_134 (by decide) rfl ?_
      refine g_icY C (pc' := 148) at_135 rfl (by decide) (by decide) rfl ?_
      refine g_new C (pc' := 151) (k' := 9) (n' := 40) (wd hw 113 rfl) (wd hw 114 rfl) (wd hw 115 rfl) at_148 (by decide) (by decide) rfl rfl rfl (fun h2285 b2286 ex2287 E2288 A2289 D2290 => ?_)
      have ne_b1413_b2286 : b1413 ≠ b2286 := Nat.ne_of_lt (by rw [ex2287]; exact f2278.lt)
      have ne_b1420_b2286 : b1420 ≠ b2286 := Nat.ne_of_lt (by rw [ex2287]; exact f2279.lt)
      have ne_b1468_b2286 : b1468 ≠ b2286 := Nat.ne_of_lt (by rw [ex2287]; exact f2280.lt)
      have ne_b1486_b2286 : b1486 ≠ b2286 := Nat.ne_of_lt (by rw [ex2287]; exact f2281.lt)
      have ne_ed2200_b2286 : ed2200 ≠ b2286 := Nat.ne_of_lt (by rw [ex2287]; exact f2282.lt)
      have ne_ed2271_b2286 : ed2271 ≠ b2286 := Nat.ne_of_lt (by rw [ex2287]; exact E2284.lt)
      have ge_b2286 : n0 ≤ b2286 := by rw [ex2287]; exact f2277.1 ▸ f2277.2.1
      have f2291 := f2277.ext E2288
      have f2292 := f2278.ext E2288
      have f2293 := f2279.ext E2288
      have f2294 := f2280.ext E2288
      have f2295 := f2281.ext E2288
      have f2296 := f2282.ext E2288
      have f2297 := own_AL1_ext f2283 E2288
      have f2298 := own_AL1_ext P2270 E2288
      have f2299 := E2284.ext E2288
      have F_area_b2286 : Fld Z h2285 b2286 "com/example/plumbline/plumbline/Grades" "area" "Ljava/util/List;" .null := D2290 (Or.inr (wd hw 148 rfl)) (ty := (.object "java/util/List")) (by decide)
      have F_total_b2286 : Fld Z h2285 b2286 "com/example/plumbline/plumbline/Grades" "total" "Ljava/util/List;" .null := D2290 (Or.inr (wd hw 215 rfl)) (ty := (.object "java/util/List")) (by decide)
      refine g_dup C (pc' := 152) at_151 rfl rfl rfl ?_
      refine g_aload C (pc' := 154) at_152 rfl rfl rfl ?_
      refine g_aload C (pc' := 156) at_154 rfl rfl rfl ?_
      refine g_special C (pc' := 159) (k' := 14) (n' := 51) (argsL := [(.ref b1468), (.ref b1486)]) (rest := [(.ref b2286)]) (wd hw 116 rfl) (wd hw 117 rfl) (wd hw 115 rfl) (wd hw 118 rfl) (by decide) rfl at_156 pd_12 rfl rfl rfl (gsI_31 l Z a0 hw n0 h2285 f2291 s_DEF s_EL s_EA s_EM cs mr H b2286 b1413 ge_b2286 b1468 ed2200 kE2201 ((((0 : Int32) + (1 : Int32)) + (1 : Int32)) + (1 : Int32)) b1486 ed2271 kE2272 ((0 : Int32) + (1 : Int32)) A2289 F_area_b2286 F_total_b2286 f2292 f2297 f2298 (Ne.symm ne_b1468_b2286) (Ne.symm ne_b1486_b2286) (Ne.symm ne_ed2200_b2286) (Ne.symm ne_ed2271_b2286)) (Nat.le_of_ble_eq_true rfl) (Nat.le_of_ble_eq_true rfl) (Nat.le_of_ble_eq_true rfl) (Nat.le_of_ble_eq_true rfl) rfl rfl rfl (fun v2304 h2303 q2305 => ?_)
      obtain ⟨rfl, K2300, E2301, L, ar, kA, F2302, EL, FL, AL_⟩ := q2305
      have f2306 := f2291.keep K2300 (allS ge_b2286 all0)
      have f2307 := f2292.keep K2300
      have f2308 := f2293.keep K2300
      have f2309 := f2294.keep K2300
      have f2310 := f2295.keep K2300
      have f2311 := f2296.keep K2300
      have f2312 := own_AL1_keep f2297 K2300 (ninS ne_b1468_b2286 nin0) (ninS ne_ed2200_b2286 nin0)
      have f2313 := own_AL1_keep f2298 K2300 (ninS ne_b1486_b2286 nin0) (ninS ne_ed2271_b2286 nin0)
      have f2314 := f2299.keep K2300
      have f2315 := A2289.keep K2300
      show G w _ h2303 14 51 159 #[.val (.int p0), .val (.int p1), .val (.int p2), .val (.int (3 : Int32)), .val (.int (1 : Int32)), .val (.ref b1413), .val (.ref b1468), .val (.ref b1486), .unset, .unset] [(.ref b2286)]
      refine g_astore C (pc' := 161) (Ls' := #[.val (.int p0), .val (.int p1), .val (.int p2), .val (.int (3 : Int32)), .val (.int (1 : Int32)), .val (.ref b1413), .val (.ref b1468), .val (.ref b1486), .val (.ref b2286), .unset]) at_159 rfl rfl rfl rfl ?_
      refine g_iloadN C (pc' := 162) at_161 rfl rfl ?_
      refine g_ifN C (pc' := 165) at_162 rfl (by decide) rfl ?_
      refine g_iconst C (pc' := 166) (v := (1 : Int32)) at_165 (by decide) rfl ?_
      refine g_goto C (pc' := 170) at_166 (by decide) rfl ?_
      refine g_istore C (pc' := 172) (Ls' := #[.val (.int p0), .val (.int p1), .val (.int p2), .val (.int (3 : Int32)), .val (.int (1 : Int32)), .val (.ref b1413), .val (.ref b1468), .val (.ref b1486), .val (.ref b2286), .val (.int (1 : Int32))]) at_170 rfl rfl rfl ?_
      refine g_aload C (pc' := 174) at_172 rfl rfl rfl ?_
      refine g_virtual C (pc' := 177) (k' := 14) (n' := 51) (argsL := []) (rest := []) (wd hw 216 rfl) (wd hw 217 rfl) (nfSel (wd hw 219 rfl)) (wd hw 219 rfl) (wd hw 218 rfl) (wd hw 115 rfl) (wd hw 220 rfl) (by decide) at_174 pd_14 rfl rfl rfl E2301 (gr_3 l Z a0 hw n0 h2303 f2306 s_DEF s_EL s_EA s_EM cs mr H b2286 E2301 L ar kA b1413 F2302 EL FL AL_) (Nat.le_of_ble_eq_true rfl) (Nat.le_of_ble_eq_true rfl) (Nat.le_of_ble_eq_true rfl) (Nat.le_of_ble_eq_true rfl) rfl rfl rfl (fun v2317 h2316 q2318 => ?_)
      obtain ⟨rfl, eh2316⟩ := q2318
      subst h2316
      show G w _ h2303 14 51 177 #[.val (.int p0), .val (.int p1), .val (.int p2), .val (.int (3 : Int32)), .val (.int (1 : Int32)), .val (.ref b1413), .val (.ref b1468), .val (.ref b1486), .val (.ref b2286), .val (.int (1 : Int32))] [(.int (1 : Int32))]
      refine g_iload C (pc' := 179) at_177 rfl rfl ?_
      refine g_icN C (pc' := 182) at_179 rfl (by decide) rfl ?_
      refine g_iconst C (pc' := 183) (v := (1 : Int32)) at_182 (by decide) rfl ?_
      refine g_goto C (pc' := 187) at_183 (by decide) rfl ?_
      exact g_zreturn C at_187 rfl rfl (Nat.le_of_ble_eq_true rfl) (Nat.le_of_ble_eq_true rfl) (rfl)
    · rw [e4]
      refine g_iload C (pc' := 103) at_101 rfl rfl ?_
      refine g_ifN C (pc' := 106) at_103 rfl (by decide) rfl ?_
      refine g_aload C (pc' := 108) at_106 rfl rfl rfl ?_
      refine g_aload C (pc' := 110) at_108 rfl rfl rfl ?_
      refine g_interface C (pc' := 115) (k' := 8) (n' := 38) (argsL := [(.ref b1413)]) (rest := []) (wd hw 78 rfl) (wd hw 79 rfl) (wd hw 80 rfl) rfl (wd hw 81 rfl) (wd hw 82 rfl) (wd hw 83 rfl) (wd hw 84 rfl) (wd hw 85 rfl) (wd hw 56 rfl) (wd hw 86 rfl) (by decide) at_110 pd_7 rfl rfl rfl f2234 (add_0 l Z a0 hw n0 h2227 f2230 s_DEF s_EL s_EA s_EM cs mr H b1486 (0 : Int32) b1413 f2231 f2235) (Nat.le_of_ble_eq_true rfl) (Nat.le_of_ble_eq_true rfl) (Nat.le_of_ble_eq_true rfl) (Nat.le_of_ble_eq_true rfl) rfl rfl rfl (fun v2325 h2324 q2326 => ?_)
      obtain ⟨rfl, K2319, ed2321, kE2322, hg2323, P2320⟩ := q2326
      have ne_b1413_ed2321 : b1413 ≠ ed2321 := Nat.ne_of_lt (Nat.lt_of_lt_of_le f2231.lt hg2323)
      have ne_b1420_ed2321 : b1420 ≠ ed2321 := Nat.ne_of_lt (Nat.lt_of_lt_of_le f2232.lt hg2323)
      have ne_b1468_ed2321 : b1468 ≠ ed2321 := Nat.ne_of_lt (Nat.lt_of_lt_of_le f2233.lt hg2323)
      have ne_b1486_ed2321 : b1486 ≠ ed2321 := Nat.ne_of_lt (Nat.lt_of_lt_of_le f2234.lt hg2323)
      have ne_ed2200_ed2321 : ed2200 ≠ ed2321 := Nat.ne_of_lt (Nat.lt_of_lt_of_le f2236.lt hg2323)
      have ge_ed2321 : n0 ≤ ed2321 := Nat.le_trans (f2230.1 ▸ f2230.2.1) hg2323
      have f2327 := f2230.keep K2319 (allS ge_b1486 all0)
      have f2328 := f2231.keep K2319
      have f2329 := f2232.keep K2319
      have f2330 := f2233.keep K2319
      have f2331 := f2234.keep K2319
      have f2332 := f2236.keep K2319
      have f2333 := own_AL1_keep P2226 K2319 (ninS ne_b1468_b1486 nin0) (ninS (Ne.symm ne_b1486_ed2200) nin0)
      have E2334 := P2320.2.2.2.2.2.1
      show G w _ h2324 8 38 115 #[.val (.int p0), .val (.int p1), .val (.int p2), .val (.int (3 : Int32)), .val (.int (2 : Int32)), .val (.ref b1413), .val (.ref b1468), .val (.ref b1486), .unset, .unset] [(.int (1 : Int32))]
      refine g_pop C (pc' := 116) at_115 rfl rfl rfl ?_
      refine g_iload C (pc' := 118) at_116 rfl rfl ?_
      refine g_iconst C (pc' := 119) (v := (1 : Int32)) at_118 (by decide) rfl ?_
      refine g_icN C (pc' := 122) at_119 rfl (by decide) rfl ?_
      refine g_aload C (pc' := 124) at_122 rfl rfl rfl ?_
      refine g_aload C (pc' := 126) at_124 rfl rfl rfl ?_
      refine g_interface C (pc' := 131) (k' := 8) (n' := 38) (argsL := [(.ref b1413)]) (rest := []) (wd hw 78 rfl) (wd hw 79 rfl) (wd hw 80 rfl) rfl (wd hw 81 rfl) (wd hw 82 rfl) (wd hw 83 rfl) (wd hw 84 rfl) (wd hw 85 rfl) (wd hw 56 rfl) (wd hw 86 rfl) (by decide) at_126 pd_7 rfl rfl rfl f2331 (add_1 l Z a0 hw n0 h2324 f2327 s_DEF s_EL s_EA s_EM cs mr H b1486 ed2321 kE2322 ((0 : Int32) + (1 : Int32)) b1413 b1413 f2328 P2320) (Nat.le_of_ble_eq_true rfl) (Nat.le_of_ble_eq_true rfl) (Nat.le_of_ble_eq_true rfl) (Nat.le_of_ble_eq_true rfl) rfl rfl rfl (fun v2338 h2337 q2339 => ?_)
      obtain ⟨rfl, K2335, P2336⟩ := q2339
      have f2340 := f2327.keep K2335 (allS ge_b1486 (allS ge_ed2321 all0))
      have f2341 := f2328.keep K2335
      have f2342 := f2329.keep K2335
      have f2343 := f2330.keep K2335
      have f2344 := f2331.keep K2335
      have f2345 := f2332.keep K2335
      have f2346 := own_AL1_keep f2333 K2335 (ninS ne_b1468_b1486 (ninS ne_b1468_ed2321 nin0)) (ninS (Ne.symm ne_b1486_ed2200) (ninS ne_ed2200_ed2321 nin0))
      have f2347 := E2334.keep K2335
      show G w _ h2337 8 38 131 #[.val (.int p0), .val (.int p1), .val (.int p2), .val (.int (3 : Int32)), .val (.int (2 : Int32)), .val (.ref b1413), .val (.ref b1468), .val (.ref b1486), .unset, .unset] [(.int (1 : Int32))]
      refine g_pop C (pc' := 132) at_131 rfl rfl rfl ?_
      refine g_iload C (pc' := 134) at_132 rfl rfl ?_
      refine g_iconst C (pc' := 135) (v := (2 : Int32)) at_134 (by decide) rfl ?_
      refine g_icY C (pc' := 148) at_135 rfl (by decide) (by decide) rfl ?_
      refine g_new C (pc' := 151) (k' := 9) (n' := 40) (wd hw 113 rfl) (wd hw 114 rfl) (wd hw 115 rfl) at_148 (by decide) (by decide) rfl rfl rfl (fun h2348 b2349 ex2350 E2351 A2352 D2353 => ?_)
      have ne_b1413_b2349 : b1413 ≠ b2349 := Nat.ne_of_lt (by rw [ex2350]; exact f2341.lt)
      have ne_b1420_b2349 : b1420 ≠ b2349 := Nat.ne_of_lt (by rw [ex2350]; exact f2342.lt)
      have ne_b1468_b2349 : b1468 ≠ b2349 := Nat.ne_of_lt (by rw [ex2350]; exact f2343.lt)
      have ne_b1486_b2349 : b1486 ≠ b2349 := Nat.ne_of_lt (by rw [ex2350]; exact f2344.lt)
      have ne_ed2200_b2349 : ed2200 ≠ b2349 := Nat.ne_of_lt (by rw [ex2350]; exact f2345.lt)
      have ne_ed2321_b2349 : ed2321 ≠ b2349 := Nat.ne_of_lt (by rw [ex2350]; exact f2347.lt)
      have ge_b2349 : n0 ≤ b2349 := by rw [ex2350]; exact f2340.1 ▸ f2340.2.1
      have f2354 := f2340.ext E2351
      have f2355 := f2341.ext E2351
      have f2356 := f2342.ext E2351
      have f2357 := f2343.ext E2351
      have f2358 := f2344.ext E2351
      have f2359 := f2345.ext E2351
      have f2360 := own_AL1_ext f2346 E2351
      have f2361 := f2347.ext E2351
      have f2362 := own_AL1_ext P2336 E2351
      have F_area_b2349 : Fld Z h2348 b2349 "com/example/plumbline/plumbline/Grades" "area" "Ljava/util/List;" .null := D2353 (Or.inr (wd hw 148 rfl)) (ty := (.object "java/util/List")) (by decide)
      have F_total_b2349 : Fld Z h2348 b2349 "com/example/plumbline/plumbline/Grades" "total" "Ljava/util/List;" .null := D2353 (Or.inr (wd hw 215 rfl)) (ty := (.object "java/util/List")) (by decide)
      refine g_dup C (pc' := 152) at_151 rfl rfl rfl ?_
      refine g_aload C (pc' := 154) at_152 rfl rfl rfl ?_
      refine g_aload C (pc' := 156) at_154 rfl rfl rfl ?_
      refine g_special C (pc' := 159) (k' := 14) (n' := 52) (argsL := [(.ref b1468), (.ref b1486)]) (rest := [(.ref b2349)]) (wd hw 116 rfl) (wd hw 117 rfl) (wd hw 115 rfl) (wd hw 118 rfl) (by decide) rfl at_156 pd_12 rfl rfl rfl (gsI_32 l Z a0 hw n0 h2348 f2354 s_DEF s_EL s_EA s_EM cs mr H b2349 b1413 ge_b2349 b1468 ed2200 kE2201 ((((0 : Int32) + (1 : Int32)) + (1 : Int32)) + (1 : Int32)) b1486 ed2321 kE2322 (((0 : Int32) + (1 : Int32)) + (1 : Int32)) A2352 F_area_b2349 F_total_b2349 f2355 f2360 f2362 (Ne.symm ne_b1468_b2349) (Ne.symm ne_b1486_b2349) (Ne.symm ne_ed2200_b2349) (Ne.symm ne_ed2321_b2349)) (Nat.le_of_ble_eq_true rfl) (Nat.le_of_ble_eq_true rfl) (Nat.le_of_ble_eq_true rfl) (Nat.le_of_ble_eq_true rfl) rfl rfl rfl (fun v2367 h2366 q2368 => ?_)
      obtain ⟨rfl, K2363, E2364, L, ar, kA, F2365, EL, FL, AL_⟩ := q2368
      have f2369 := f2354.keep K2363 (allS ge_b2349 all0)
      have f2370 := f2355.keep K2363
      have f2371 := f2356.keep K2363
      have f2372 := f2357.keep K2363
      have f2373 := f2358.keep K2363
      have f2374 := f2359.keep K2363
      have f2375 := own_AL1_keep f2360 K2363 (ninS ne_b1468_b2349 nin0) (ninS ne_ed2200_b2349 nin0)
      have f2376 := f2361.keep K2363
      have f2377 := own_AL1_keep f2362 K2363 (ninS ne_b1486_b2349 nin0) (ninS ne_ed2321_b2349 nin0)
      have f2378 := A2352.keep K2363
      show G w _ h2366 14 52 159 #[.val (.int p0), .val (.int p1), .val (.int p2), .val (.int (3 : Int32)), .val (.int (2 : Int32)), .val (.ref b1413), .val (.ref b1468), .val (.ref b1486), .unset, .unset] [(.ref b2349)]
      refine g_astore C (pc' := 161) (Ls' := #[.val (.int p0), .val (.int p1), .val (.int p2), .val (.int (3 : Int32)), .val (.int (2 : Int32)), .val (.ref b1413), .val (.ref b1468), .val (.ref b1486), .val (.ref b2349), .unset]) at_159 rfl rfl rfl rfl ?_
      refine g_iloadN C (pc' := 162) at_161 rfl rfl ?_
      refine g_ifN C (pc' := 165) at_162 rfl (by decide) rfl ?_
      refine g_iconst C (pc' := 166) (v := (1 : Int32)) at_165 (by decide) rfl ?_
      refine g_goto C (pc' := 170) at_166 (by decide) rfl ?_
      refine g_istore C (pc' := 172) (Ls' := #[.val (.int p0), .val (.int p1), .val (.int p2), .val (.int (3 : Int32)), .val (.int (2 : Int32)), .val (.ref b1413), .val (.ref b1468), .val (.ref b1486), .val (.ref b2349), .val (.int (1 : Int32))]) at_170 rfl rfl rfl ?_
      refine g_aload C (pc' := 174) at_172 rfl rfl rfl ?_
      refine g_virtual C (pc' := 177) (k' := 14) (n' := 52) (argsL := []) (rest := []) (wd hw 216 rfl) (wd hw 217 rfl) (nfSel (wd hw 219 rfl)) (wd hw 219 rfl) (wd hw 218 rfl) (wd hw 115 rfl) (wd hw 220 rfl) (by decide) at_174 pd_14 rfl rfl rfl E2364 (gr_3 l Z a0 hw n0 h2366 f2369 s_DEF s_EL s_EA s_EM cs mr H b2349 E2364 L ar kA b1413 F2365 EL FL AL_) (Nat.le_of_ble_eq_true rfl) (Nat.le_of_ble_eq_true rfl) (Nat.le_of_ble_eq_true rfl) (Nat.le_of_ble_eq_true rfl) rfl rfl rfl (fun v2380 h2379 q2381 => ?_)
      obtain ⟨rfl, eh2379⟩ := q2381
      subst h2379
      show G w _ h2366 14 52 177 #[.val (.int p0), .val (.int p1), .val (.int p2), .val (.int (3 : Int32)), .val (.int (2 : Int32)), .val (.ref b1413), .val (.ref b1468), .val (.ref b1486), .val (.ref b2349), .val (.int (1 : Int32))] [(.int (1 : Int32))]
      refine g_iload C (pc' := 179) at_177 rfl rfl ?_
      refine g_icN C (pc' := 182) at_179 rfl (by decide) rfl ?_
      refine g_iconst C (pc' := 183) (v := (1 : Int32)) at_182 (by decide) rfl ?_
      refine g_goto C (pc' := 187) at_183 (by decide) rfl ?_
      exact g_zreturn C at_187 rfl rfl (Nat.le_of_ble_eq_true rfl) (Nat.le_of_ble_eq_true rfl) (rfl)
    · rw [e4]
      refine g_iload C (pc' := 103) at_101 rfl rfl ?_
      refine g_ifN C (pc' := 106) at_103 rfl (by decide) rfl ?_
      refine g_aload C (pc' := 108) at_106 rfl rfl rfl ?_
      refine g_aload C (pc' := 110) at_108 rfl rfl rfl ?_
      refine g_interface C (pc' := 115) (k' := 8) (n' := 38) (argsL := [(.ref b1413)]) (rest := []) (wd hw 78 rfl) (wd hw 79 rfl) (wd hw 80 rfl) rfl (wd hw 81 rfl) (wd hw 82 rfl) (wd hw 83 rfl) (wd hw 84 rfl) (wd hw 85 rfl) (wd hw 56 rfl) (wd hw 86 rfl) (by decide) at_110 pd_7 rfl rfl rfl f2234 (add_0 l Z a0 hw n0 h2227 f2230 s_DEF s_EL s_EA s_EM cs mr H b1486 (0 : Int32) b1413 f2231 f2235) (Nat.le_of_ble_eq_true rfl) (Nat.le_of_ble_eq_true rfl) (Nat.le_of_ble_eq_true rfl) (Nat.le_of_ble_eq_true rfl) rfl rfl rfl (fun v2388 h2387 q2389 => ?_)
      obtain ⟨rfl, K2382, ed2384, kE2385, hg2386, P2383⟩ := q2389
      have ne_b1413_ed2384 : b1413 ≠ ed2384 := Nat.ne_of_lt (Nat.lt_of_lt_of_le f2231.lt hg2386)
      have ne_b1420_ed2384 : b1420 ≠ ed2384 := Nat.ne_of_lt (Nat.lt_of_lt_of_le f2232.lt hg2386)
      have ne_b1468_ed2384 : b1468 ≠ ed2384 := Nat.ne_of_lt (Nat.lt_of_lt_of_le f2233.lt hg2386)
      have ne_b1486_ed2384 : b1486 ≠ ed2384 := Nat.ne_of_lt (Nat.lt_of_lt_of_le f2234.lt hg2386)
      have ne_ed2200_ed2384 : ed2200 ≠ ed2384 := Nat.ne_of_lt (Nat.lt_of_lt_of_le f2236.lt hg2386)
      have ge_ed2384 : n0 ≤ ed2384 := Nat.le_trans (f2230.1 ▸ f2230.2.1) hg2386
      have f2390 := f2230.keep K2382 (allS ge_b1486 all0)
      have f2391 := f2231.keep K2382
      have f2392 := f2232.keep K2382
      have f2393 := f2233.keep K2382
      have f2394 := f2234.keep K2382
      have f2395 := f2236.keep K2382
      have f2396 := own_AL1_keep P2226 K2382 (ninS ne_b1468_b1486 nin0) (ninS (Ne.symm ne_b1486_ed2200) nin0)
      have E2397 := P2383.2.2.2.2.2.1
      show G w _ h2387 8 38 115 #[.val (.int p0), .val (.int p1), .val (.int p2), .val (.int (3 : Int32)), .val (.int (3 : Int32)), .val (.ref b1413), .val (.ref b1468), .val (.ref b1486), .unset, .unset] [(.int (1 : Int32))]
      refine g_pop C (pc' := 116) at_115 rfl rfl rfl ?_
      refine g_iload C (pc' := 118) at_116 rfl rfl ?_
      refine g_iconst C (pc' := 119) (v := (1 : Int32)) at_118 (by decide) rfl ?_
      refine g_icN C (pc' := 122) at_119 rfl (by decide) rfl ?_
      refine g_aload C (pc' := 124) at_122 rfl rfl rfl ?_
      refine g_aload C (pc' := 126) at_124 rfl rfl rfl ?_
      refine g_interface C (pc' := 131) (k' := 8) (n' := 38) (argsL := [(.ref b1413)]) (rest := []) (wd hw 78 rfl) (wd hw 79 rfl) (wd hw 80 rfl) rfl (wd hw 81 rfl) (wd hw 82 rfl) (wd hw 83 rfl) (wd hw 84 rfl) (wd hw 85 rfl) (wd hw 56 rfl) (wd hw 86 rfl) (by decide) at_126 pd_7 rfl rfl rfl f2394 (add_1 l Z a0 hw n0 h2387 f2390 s_DEF s_EL s_EA s_EM cs mr H b1486 ed2384 kE2385 ((0 : Int32) + (1 : Int32)) b1413 b1413 f2391 P2383) (Nat.le_of_ble_eq_true rfl) (Nat.le_of_ble_eq_true rfl) (Nat.le_of_ble_eq_true rfl) (Nat.le_of_ble_eq_true rfl) rfl rfl rfl (fun v2401 h2400 q2402 => ?_)
      obtain ⟨rfl, K2398, P2399⟩ := q2402
      have f2403 := f2390.keep K2398 (allS ge_b1486 (allS ge_ed2384 all0))
      have f2404 := f2391.keep K2398
      have f2405 := f2392.keep K2398
      have f2406 := f2393.keep K2398
      have f2407 := f2394.keep K2398
      have f2408 := f2395.keep K2398
      have f2409 := own_AL1_keep f2396 K2398 (ninS ne_b1468_b1486 (ninS ne_b1468_ed2384 nin0)) (ninS (Ne.symm ne_b1486_ed2200) (ninS ne_ed2200_ed2384 nin0))
      have f2410 := E2397.keep K2398
      show G w _ h2400 8 38 131 #[.val (.int p0), .val (.int p1), .val (.int p2), .val (.int (3 : Int32)), .val (.int (3 : Int32)), .val (.ref b1413), .val (.ref b1468), .val (.ref b1486), .unset, .unset] [(.int (1 : Int32))]
      refine g_pop C (pc' := 132) at_131 rfl rfl rfl ?_
      refine g_iload C (pc' := 134) at_132 rfl rfl ?_
      refine g_iconst C (pc' := 135) (v := (2 : Int32)) at_134 (by decide) rfl ?_
      refine g_icN C (pc' := 138) at_135 rfl (by decide) rfl ?_
      refine g_aload C (pc' := 140) at_138 rfl rfl rfl ?_
      refine g_aload C (pc' := 142) at_140 rfl rfl rfl ?_
      refine g_interface C (pc' := 147) (k' := 8) (n' := 38) (argsL := [(.ref b1413)]) (rest := []) (wd hw 78 rfl) (wd hw 79 rfl) (wd hw 80 rfl) rfl (wd hw 81 rfl) (wd hw 82 rfl) (wd hw 83 rfl) (wd hw 84 rfl) (wd hw 85 rfl) (wd hw 56 rfl) (wd hw 86 rfl) (by decide) at_142 pd_7 rfl rfl rfl f2407 (add_2 l Z a0 hw n0 h2400 f2403 s_DEF s_EL s_EA s_EM cs mr H b1486 ed2384 kE2385 (((0 : Int32) + (1 : Int32)) + (1 : Int32)) b1413 b1413 b1413 f2404 P2399) (Nat.le_of_ble_eq_true rfl) (Nat.le_of_ble_eq_true rfl) (Nat.le_of_ble_eq_true rfl) (Nat.le_of_ble_eq_true rfl) rfl rfl rfl (fun v2414 h2413 q2415 => ?_)
      obtain ⟨rfl, K2411, P2412⟩ := q2415
      have f2416 := f2403.keep K2411 (allS ge_b1486 (allS ge_ed2384 all0))
      have f2417 := f2404.keep K2411
      have f2418 := f2405.keep K2411
      have f2419 := f2406.keep K2411
      have f2420 := f2407.keep K2411
      have f2421 := f2408.keep K2411
      have f2422 := own_AL1_keep f2409 K2411 (ninS ne_b1468_b1486 (ninS ne_b1468_ed2384 nin0)) (ninS (Ne.symm ne_b1486_ed2200) (ninS ne_ed2200_ed2384 nin0))
      have f2423 := f2410.keep K2411
      show G w _ h2413 8 38 147 #[.val (.int p0), .val (.int p1), .val (.int p2), .val (.int (3 : Int32)), .val (.int (3 : Int32)), .val (.ref b1413), .val (.ref b1468), .val (.ref b1486), .unset, .unset] [(.int (1 : Int32))]
      refine g_pop C (pc' := 148) at_147 rfl rfl rfl ?_
      refine g_new C (pc' := 151) (k' := 9) (n' := 40) (wd hw 113 rfl) (wd hw 114 rfl) (wd hw 115 rfl) at_148 (by decide) (by decide) rfl rfl rfl (fun h2424 b2425 ex2426 E2427 A2428 D2429 => ?_)
      have ne_b1413_b2425 : b1413 ≠ b2425 := Nat.ne_of_lt (by rw [ex2426]; exact f2417.lt)
      have ne_b1420_b2425 : b1420 ≠ b2425 := Nat.ne_of_lt (by rw [ex2426]; exact f2418.lt)
      have ne_b1468_b2425 : b1468 ≠ b2425 := Nat.ne_of_lt (by rw [ex2426]; exact f2419.lt)
      have ne_b1486_b2425 : b1486 ≠ b2425 := Nat.ne_of_lt (by rw [ex2426]; exact f2420.lt)
      have ne_ed2200_b2425 : ed2200 ≠ b2425 := Nat.ne_of_lt (by rw [ex2426]; exact f2421.lt)
      have ne_ed2384_b2425 : ed2384 ≠ b2425 := Nat.ne_of_lt (by rw [ex2426]; exact f2423.lt)
      have ge_b2425 : n0 ≤ b2425 := by rw [ex2426]; exact f2416.1 ▸ f2416.2.1
      have f2430 := f2416.ext E2427
      have f2431 := f2417.ext E2427
      have f2432 := f2418.ext E2427
      have f2433 := f2419.ext E2427
      have f2434 := f2420.ext E2427
      have f2435 := f2421.ext E2427
      have f2436 := own_AL1_ext f2422 E2427
      have f2437 := f2423.ext E2427
      have f2438 := own_AL1_ext P2412 E2427
      have F_area_b2425 : Fld Z h2424 b2425 "com/example/plumbline/plumbline/Grades" "area" "Ljava/util/List;" .null := D2429 (Or.inr (wd hw 148 rfl)) (ty := (.object "java/util/List")) (by decide)
      have F_total_b2425 : Fld Z h2424 b2425 "com/example/plumbline/plumbline/Grades" "total" "Ljava/util/List;" .null := D2429 (Or.inr (wd hw 215 rfl)) (ty := (.object "java/util/List")) (by decide)
      refine g_dup C (pc' := 152) at_151 rfl rfl rfl ?_
      refine g_aload C (pc' := 154) at_152 rfl rfl rfl ?_
      refine g_aload C (pc' := 156) at_154 rfl rfl rfl ?_
      refine g_special C (pc' := 159) (k' := 15) (n' := 56) (argsL := [(.ref b1468), (.ref b1486)]) (rest := [(.ref b2425)]) (wd hw 116 rfl) (wd hw 117 rfl) (wd hw 115 rfl) (wd hw 118 rfl) (by decide) rfl at_156 pd_12 rfl rfl rfl (gsI_33 l Z a0 hw n0 h2424 f2430 s_DEF s_EL s_EA s_EM cs mr H b2425 b1413 ge_b2425 b1468 ed2200 kE2201 ((((0 : Int32) + (1 : Int32)) + (1 : Int32)) + (1 : Int32)) b1486 ed2384 kE2385 ((((0 : Int32) + (1 : Int32)) + (1 : Int32)) + (1 : Int32)) A2428 F_area_b2425 F_total_b2425 f2431 f2436 f2438 (Ne.symm ne_b1468_b2425) (Ne.symm ne_b1486_b2425) (Ne.symm ne_ed2200_b2425) (Ne.symm ne_ed2384_b2425)) (Nat.le_of_ble_eq_true rfl) (Nat.le_of_ble_eq_true rfl) (Nat.le_of_ble_eq_true rfl) (Nat.le_of_ble_eq_true rfl) rfl rfl rfl (fun v2443 h2442 q2444 => ?_)
      obtain ⟨rfl, K2439, E2440, L, ar, kA, F2441, EL, FL, AL_⟩ := q2444
      have f2445 := f2430.keep K2439 (allS ge_b2425 all0)
      have f2446 := f2431.keep K2439
      have f2447 := f2432.keep K2439
      have f2448 := f2433.keep K2439
      have f2449 := f2434.keep K2439
      have f2450 := f2435.keep K2439
      have f2451 := own_AL1_keep f2436 K2439 (ninS ne_b1468_b2425 nin0) (ninS ne_ed2200_b2425 nin0)
      have f2452 := f2437.keep K2439
      have f2453 := own_AL1_keep f2438 K2439 (ninS ne_b1486_b2425 nin0) (ninS ne_ed2384_b2425 nin0)
      have f2454 := A2428.keep K2439
      show G w _ h2442 15 56 159 #[.val (.int p0), .val (.int p1), .val (.int p2), .val (.int (3 : Int32)), .val (.int (3 : Int32)), .val (.ref b1413), .val (.ref b1468), .val (.ref b1486), .unset, .unset] [(.ref b2425)]
      refine g_astore C (pc' := 161) (Ls' := #[.val (.int p0), .val (.int p1), .val (.int p2), .val (.int (3 : Int32)), .val (.int (3 : Int32)), .val (.ref b1413), .val (.ref b1468), .val (.ref b1486), .val (.ref b2425), .unset]) at_159 rfl rfl rfl rfl ?_
      refine g_iloadN C (pc' := 162) at_161 rfl rfl ?_
      refine g_ifN C (pc' := 165) at_162 rfl (by decide) rfl ?_
      refine g_iconst C (pc' := 166) (v := (1 : Int32)) at_165 (by decide) rfl ?_
      refine g_goto C (pc' := 170) at_166 (by decide) rfl ?_
      refine g_istore C (pc' := 172) (Ls' := #[.val (.int p0), .val (.int p1), .val (.int p2), .val (.int (3 : Int32)), .val (.int (3 : Int32)), .val (.ref b1413), .val (.ref b1468), .val (.ref b1486), .val (.ref b2425), .val (.int (1 : Int32))]) at_170 rfl rfl rfl ?_
      refine g_aload C (pc' := 174) at_172 rfl rfl rfl ?_
      refine g_virtual C (pc' := 177) (k' := 15) (n' := 56) (argsL := []) (rest := []) (wd hw 216 rfl) (wd hw 217 rfl) (nfSel (wd hw 219 rfl)) (wd hw 219 rfl) (wd hw 218 rfl) (wd hw 115 rfl) (wd hw 220 rfl) (by decide) at_174 pd_14 rfl rfl rfl E2440 (gr_3 l Z a0 hw n0 h2442 f2445 s_DEF s_EL s_EA s_EM cs mr H b2425 E2440 L ar kA b1413 F2441 EL FL AL_) (Nat.le_of_ble_eq_true rfl) (Nat.le_of_ble_eq_true rfl) (Nat.le_of_ble_eq_true rfl) (Nat.le_of_ble_eq_true rfl) rfl rfl rfl (fun v2456 h2455 q2457 => ?_)
      obtain ⟨rfl, eh2455⟩ := q2457
      subst h2455
      show G w _ h2442 15 56 177 #[.val (.int p0), .val (.int p1), .val (.int p2), .val (.int (3 : Int32)), .val (.int (3 : Int32)), .val (.ref b1413), .val (.ref b1468), .val (.ref b1486), .val (.ref b2425), .val (.int (1 : Int32))] [(.int (1 : Int32))]
      refine g_iload C (pc' := 179) at_177 rfl rfl ?_
      refine g_icN C (pc' := 182) at_179 rfl (by decide) rfl ?_
      refine g_iconst C (pc' := 183) (v := (1 : Int32)) at_182 (by decide) rfl ?_
      refine g_goto C (pc' := 187) at_183 (by decide) rfl ?_
      exact g_zreturn C at_187 rfl rfl (Nat.le_of_ble_eq_true rfl) (Nat.le_of_ble_eq_true rfl) (rfl)
set_option maxRecDepth 65536 in
set_option maxHeartbeats 40000000 in
theorem comes_1 {Post : Tables → Env → Array Value → State → Outcome → State → Prop} (hpost : ∀ tb e args s v u, (limb_1_1.after args s (.returned v) u = true ∧ limb_1_2.after args s (.returned v) u = true ∧ True) → FrameEnd s (.returned v) u (Jvm.fieldLocs frame_1_writes args s ++ Jvm.arrayLocs frame_1_arrays args s ++ Jvm.staticLocs frame_1_statics s) 40 192 → Post tb e args s (.returned v) u) :
    ArmFor flags0 classFile x code maxLocals ret World_1 tables_1 room_1 Calls_1 rest_1 Pre_1 Post := by
  intro l hfl _ _ p e ha hc hk s m args below hf hA hF happ hP
  obtain ⟨hcalls, hrest, hpre⟩ := hP
  obtain ⟨-, -, -, hnamed, -, -, -, hat⟩ := (Spec.applies_iff hf).mp happ
  obtain ⟨hg, hn⟩ := and_e (Cond.before_iff.mp (show (Jvm.Cond.and given_1 narrow_1).before args s = true from hpre))
  obtain ⟨hga, hgb⟩ := and_e hg
  obtain ⟨hgba, hgbb⟩ := and_e hgb
  obtain ⟨hgbba, hgbbb⟩ := and_e hgbb
  obtain ⟨w0, w1, w2, rfl⟩ : ∃ w0 w1 w2 : Value, args = #[w0, w1, w2] := by
    have hs : args.size = 3 := by simpa [Cond.value, given_1] using hga
    obtain ⟨L⟩ := args
    match L, hs with
    | [w0, w1, w2], _ => exact ⟨w0, w1, w2, rfl⟩
  have hw := fun d (hd : d ∈ tables_1) => atoms_spec (ws := Jvm.Cond.code x code maxLocals ret :: tables_1) hat d (List.mem_cons_of_mem _ hd)
  have hfit : Fit s := fun {y c} hc i hi => by
    obtain ⟨ha, rfl⟩ := Array.getElem?_eq_some_iff.mp hc
    have q := List.all_eq_true.mp ((Array.all_eq_true_iff_forall_mem.mp hF) _ (Array.getElem_mem ha)) i (List.mem_range.mpr hi)
    simpa [Array.getElem?_eq_getElem hi] using q
  obtain ⟨hsets, hown0⟩ := atoms_of _ (rest_1_c_eq ▸ (show rest_1_c.before _ s = true from hrest))
  obtain ⟨i0, ei0⟩ := is_v hgba
  obtain rfl : w0 = (.int i0) := Option.some.inj ei0
  obtain ⟨i1, ei1⟩ := is_v hgbba
  obtain rfl : w1 = (.int i1) := Option.some.inj ei1
  obtain ⟨i2, ei2⟩ := is_v hgbbb
  obtain rfl : w2 = (.int i2) := Option.some.inj ei2
  obtain ⟨s_DEF, ev_DEF⟩ := exa_v (Cond.before_iff.mp (hsets _ (List.mem_of_getElem? (i := 16) rfl)))
  have S_DEF := Sta.start ev_DEF (Or.inr ⟨(wd hw 56 rfl), hsets _ (List.mem_of_getElem? (i := 11) rfl)⟩)
  have E_DEF := Exa.start ev_DEF (Cond.before_iff.mp (hsets _ (List.mem_of_getElem? (i := 16) rfl)))
  have V_DEF := own_emptyA (dv := .null) ev_DEF (Cond.before_iff.mp (hsets _ (List.mem_of_getElem? (i := 15) rfl))) (Cond.before_iff.mp (hsets _ (List.mem_of_getElem? (i := 17) rfl)))
  obtain ⟨s_EL, ev_EL⟩ := exa_v (Cond.before_iff.mp (hsets _ (List.mem_of_getElem? (i := 20) rfl)))
  have S_EL := Sta.start ev_EL (Or.inl (hsets _ (List.mem_of_getElem? (i := 19) rfl)))
  have E_EL := Exa.start ev_EL (Cond.before_iff.mp (hsets _ (List.mem_of_getElem? (i := 20) rfl)))
  obtain ⟨s_EA, ev_EA⟩ := exa_v (Cond.before_iff.mp (hsets _ (List.mem_of_getElem? (i := 22) rfl)))
  have F_EL := own_fldRef ev_EL ev_EA
  have V_EA := own_emptyA (dv := .null) ev_EA (Cond.before_iff.mp (hsets _ (List.mem_of_getElem? (i := 21) rfl))) (Cond.before_iff.mp (hsets _ (List.mem_of_getElem? (i := 23) rfl)))
  obtain ⟨s_EM, ev_EM⟩ := exa_v (Cond.before_iff.mp (hsets _ (List.mem_of_getElem? (i := 27) rfl)))
  have S_EM := Sta.start ev_EM (Or.inl (hsets _ (List.mem_of_getElem? (i := 26) rfl)))
  have E_EM := Exa.start ev_EM (Cond.before_iff.mp (hsets _ (List.mem_of_getElem? (i := 27) rfl)))
  obtain ⟨cs, ev_CS⟩ := is_v (Cond.before_iff.mp (hsets _ (List.mem_of_getElem? (i := 1) rfl)))
  have S_CS := Sta.start ev_CS (Or.inl (hsets _ (List.mem_of_getElem? (i := 0) rfl)))
  have hcs := own_neInt ev_CS (Cond.before_iff.mp (hsets _ (List.mem_of_getElem? (i := 2) rfl)))
  obtain ⟨mcl, mkl, mr, mm1, mm2, mm3, mm4⟩ := hcalls.1
  have MIR : Mir s "[Ljava/lang/Object;" mr := ⟨mcl, mkl, mm1, mm2, mm3, mm4⟩
  have H : En s s_DEF s_EL s_EA s_EM cs mr := ⟨S_DEF, E_DEF, V_DEF, S_EL, E_EL, F_EL, V_EA, S_EM, E_EM, S_CS, hcs, MIR⟩
  obtain ⟨n, o, h1, h2, h3, _, L, rfl, ⟨rfl, N⟩, hq⟩ := rm0 l s _ hw s.heap.size s.heap (Old.start s) s_DEF s_EL s_EA s_EM cs mr H i0 i1 i2  tables_1 p e ha hc hk s m _ below hf ((Spec.applies_iff_loose hf).mp happ).1 ⟨rfl, State.Warmed39.refl s, rfl⟩ trivial
  refine ⟨n, _, h1, h2, h3, hpost _ _ _ _ _ _ ⟨Cond.after_iff.mpr rfl, Cond.after_iff.mpr (eq_i res_at (Term.int_eval (1)) rfl), trivial⟩ ⟨hq.1, hq.2.1, (hq.2.2.sift fun y hy => Or.inr (N y hy)).mono (by decide) (by decide)⟩⟩
theorem main_1_1 : Claimed_1_1 := comes_1 fun _ _ _ _ _ _ h hF => ⟨h.1, hF⟩
theorem main_1_2 : Claimed_1_2 := comes_1 fun _ _ _ _ _ _ h hF => ⟨h.2.1, hF⟩
end Jvm.Pilot.@@N@@
namespace Jvm.Pilot.@@N@@
open Jvm Jvm.ClassFile Sem Op Lib Jvm.Free Jvm.Stand Jvm.Pilot.@@N@@.Jvm.D
/-! MADE BY PROGRAM (witnessworld.py) out of the Statement's table words and the real class files: 37 classes; the members and pool entries that the words name. The judged class is class 1, her method 1. -/
namespace start1
open Jvm.ClassFile
def u (s : String) : CpInfo := .utf8 (stringToUtf16 s)
/-- a pool by its gaps: so many unusable entries, then the entry; so many at the end -/
def gap : Nat → List CpInfo → List CpInfo
  | 0, r => r
  | n + 1, r => .unusable :: gap n r
def poolList (es : List (Nat × CpInfo)) (last : Nat) : List CpInfo := es.foldr (fun e r => gap e.1 (e.2 :: r)) (gap last [])
def pool (es : List (Nat × CpInfo)) (last : Nat) : Array CpInfo := ⟨poolList es last⟩
def fileOf (pool : Array CpInfo) (this : Nat) (attrs : Array Attribute := #[]) (ms : Array MethodInfo := #[]) (fl : Nat := 33) (sup : Nat := 0) (ifs : Array Nat := #[]) (fds : Array FieldInfo := #[]) : ClassFile where
  minorVersion := 0
  majorVersion := 65
  constantPool := pool
  accessFlags := fl
  thisClass := this
  superClass := sup
  interfaces := ifs
  fields := fds
  methods := ms
  attributes := attrs
def plain (name : String) (sup : Option ClassId) : Class where
  name := name
  kind := .ordinary
  loader := none
  accessFlags := 33
  super := sup
  interfaces := #[]
  cf := none
  fields := #[]
  methods := #[]
  instanceTypes := #[]
  staticTypes := #[]
  resolved := #[]
  callSites := []
  init := .initialized
  statics := none
  mirror := none

def pool0 : Array CpInfo := pool [(5, u "<init>"), (0, u "()V"), (1, .class_ 10), (1, u "java/lang/Object"), (0, u "getClass"), (0, u "()Ljava/lang/Class;")] 111

def k0c0 : Code := { maxStack := 0, maxLocals := 1, code := object_method_1_code, exceptionTable := #[], attributes := #[] }
def k0m0 : Method := { name := "<init>", desc := "()V", sig := { parameters := [], returnType := none }, accessFlags := 1, code := some k0c0 }
def k0m1 : Method := { name := "getClass", desc := "()Ljava/lang/Class;", sig := { parameters := [], returnType := some (.object "java/lang/Class") }, accessFlags := 273, code := none }
/-- java/lang/Object -/
def k0 : Class := { plain "java/lang/Object" none with
  accessFlags := 33
  interfaces := #[]
  cf := some (fileOf pool0 8 #[] #[{ accessFlags := 1, nameIndex := 5, descriptorIndex := 6, attributes := #[] }, { accessFlags := 273, nameIndex := 11, descriptorIndex := 12, attributes := #[] }] 33 0 #[] #[])
  fields := #[]
  methods := #[k0m0, k0m1]
  instanceTypes := #[]
  staticTypes := #[]
  resolved := Array.replicate 124 none
  statics := none }

def pool1 : Array CpInfo := pool [(2, .class_ 4), (0, .nameAndType 5 6), (0, u "java/lang/Object"), (0, u "<init>"), (0, u "()V"), (0, .class_ 8), (0, u "com/example/plumbline/plumbline/Band"), (0, .class_ 10), (0, u "com/example/plumbline/plumbline/Grade"), (0, .methodref 12 13), (0, .class_ 14), (0, .nameAndType 15 16), (0, u "java/lang/String"), (0, u "valueOf"), (0, u "(C)Ljava/lang/String;"), (0, .methodref 9 18), (0, .nameAndType 5 19), (0, u "(Ljava/lang/String;Ljava/lang/String;)V"), (0, .methodref 7 21), (0, .nameAndType 5 22), (0, u "(Lcom/example/plumbline/plumbline/Points;ZLcom/example/plumbline/plumbline/Points;ZLjava/lang/Object;)V"), (0, .class_ 24), (0, u "java/util/ArrayList"), (0, .methodref 23 3), (0, .interfaceMethodref 27 28), (0, .class_ 29), (0, .nameAndType 30 31), (0, u "java/util/List"), (0, u "add"), (0, u "(Ljava/lang/Object;)Z"), (0, .class_ 33), (0, u "com/example/plumbline/plumbline/Grades"), (0, .methodref 32 35), (0, .nameAndType 5 36), (0, u "(Ljava/util/List;Ljava/util/List;)V"), (0, .methodref 32 38), (0, .nameAndType 39 40), (0, u "gradesAreas"), (0, u "()Z"), (0, .class_ 42), (0, u "com/example/plumbline/plumbline/GradesGradesAreasPinLaw"), (2, u "law"), (0, u "(III)Z")] 3

def k1m0 : Method := { name := "<init>", desc := "()V", sig := { parameters := [], returnType := none }, accessFlags := 1, code := none }
def k1c1 : Code := { maxStack := 10, maxLocals := 10, code := code, exceptionTable := #[], attributes := #[] }
def k1m1 : Method := { name := "law", desc := "(III)Z", sig := { parameters := [.int, .int, .int], returnType := some .boolean }, accessFlags := 9, code := some k1c1 }
/-- com/example/plumbline/plumbline/GradesGradesAreasPinLaw -/
def k1 : Class := { plain "com/example/plumbline/plumbline/GradesGradesAreasPinLaw" (some 0) with
  accessFlags := 49
  interfaces := #[]
  cf := some (fileOf pool1 41 #[] #[{ accessFlags := 1, nameIndex := 5, descriptorIndex := 6, attributes := #[] }, { accessFlags := 9, nameIndex := 45, descriptorIndex := 46, attributes := #[] }] 49 2 #[] #[])
  fields := #[]
  methods := #[k1m0, k1m1]
  instanceTypes := #[]
  staticTypes := #[]
  resolved := Array.replicate 50 none
  statics := none }

def pool2 : Array CpInfo := pool [(1, .methodref 2 3), (0, .class_ 4), (0, .nameAndType 5 6), (0, u "java/lang/Object"), (0, u "<init>"), (0, u "()V"), (0, .fieldref 8 9), (0, .class_ 10), (0, .nameAndType 11 12), (0, u "com/example/plumbline/plumbline/Band"), (0, u "lower"), (0, u "Lcom/example/plumbline/plumbline/Points;"), (0, .fieldref 8 14), (0, .nameAndType 15 16), (0, u "lowerHeld"), (0, u "Z"), (0, .fieldref 8 18), (0, .nameAndType 19 12), (0, u "upper"), (0, .fieldref 8 21), (0, .nameAndType 22 16), (0, u "upperHeld"), (0, .fieldref 8 24), (0, .nameAndType 25 26), (0, u "gives"), (0, u "Ljava/lang/Object;"), (86, u "(Lcom/example/plumbline/plumbline/Points;ZLcom/example/plumbline/plumbline/Points;ZLjava/lang/Object;)V")] 31

def k2c0 : Code := { maxStack := 2, maxLocals := 6, code := prog_6_method_1_code, exceptionTable := #[], attributes := #[] }
def k2m0 : Method := { name := "<init>", desc := "(Lcom/example/plumbline/plumbline/Points;ZLcom/example/plumbline/plumbline/Points;ZLjava/lang/Object;)V", sig := { parameters := [(.object "com/example/plumbline/plumbline/Points"), .boolean, (.object "com/example/plumbline/plumbline/Points"), .boolean, (.object "java/lang/Object")], returnType := none }, accessFlags := 1, code := some k2c0 }
/-- com/example/plumbline/plumbline/Band -/
def k2 : Class := { plain "com/example/plumbline/plumbline/Band" (some 0) with
  accessFlags := 49
  interfaces := #[]
  cf := some (fileOf pool2 8 #[] #[{ accessFlags := 1, nameIndex := 5, descriptorIndex := 113, attributes := #[] }] 49 2 #[] #[{ accessFlags := 18, nameIndex := 11, descriptorIndex := 12, attributes := #[] }, { accessFlags := 18, nameIndex := 15, descriptorIndex := 16, attributes := #[] }, { accessFlags := 18, nameIndex := 19, descriptorIndex := 12, attributes := #[] }, { accessFlags := 18, nameIndex := 22, descriptorIndex := 16, attributes := #[] }, { accessFlags := 18, nameIndex := 25, descriptorIndex := 26, attributes := #[] }])
  fields := #[{ name := "lower", type := (.object "com/example/plumbline/plumbline/Points"), accessFlags := 18, slot := 0, constantValue := 0 }, { name := "lowerHeld", type := .boolean, accessFlags := 18, slot := 1, constantValue := 0 }, { name := "upper", type := (.object "com/example/plumbline/plumbline/Points"), accessFlags := 18, slot := 2, constantValue := 0 }, { name := "upperHeld", type := .boolean, accessFlags := 18, slot := 3, constantValue := 0 }, { name := "gives", type := (.object "java/lang/Object"), accessFlags := 18, slot := 4, constantValue := 0 }]
  methods := #[k2m0]
  instanceTypes := #[(.object "com/example/plumbline/plumbline/Points"), .boolean, (.object "com/example/plumbline/plumbline/Points"), .boolean, (.object "java/lang/Object")]
  staticTypes := #[]
  resolved := Array.replicate 145 none
  statics := none }

def pool3 : Array CpInfo := pool [(1, .methodref 2 3), (0, .class_ 4), (0, .nameAndType 5 6), (0, u "java/lang/Object"), (0, u "<init>"), (0, u "()V"), (0, .fieldref 8 9), (0, .class_ 10), (0, .nameAndType 11 12), (0, u "com/example/plumbline/plumbline/Grade"), (0, u "name"), (0, u "Ljava/lang/String;"), (0, .fieldref 8 14), (0, .nameAndType 15 12), (0, u "overall"), (0, u "(Ljava/lang/String;Ljava/lang/String;)V")] 5

def k3c0 : Code := { maxStack := 2, maxLocals := 3, code := prog_31_method_1_code, exceptionTable := #[], attributes := #[] }
def k3m0 : Method := { name := "<init>", desc := "(Ljava/lang/String;Ljava/lang/String;)V", sig := { parameters := [(.object "java/lang/String"), (.object "java/lang/String")], returnType := none }, accessFlags := 1, code := some k3c0 }
/-- com/example/plumbline/plumbline/Grade -/
def k3 : Class := { plain "com/example/plumbline/plumbline/Grade" (some 0) with
  accessFlags := 49
  interfaces := #[]
  cf := some (fileOf pool3 8 #[] #[{ accessFlags := 1, nameIndex := 5, descriptorIndex := 16, attributes := #[] }] 49 2 #[] #[{ accessFlags := 18, nameIndex := 11, descriptorIndex := 12, attributes := #[] }, { accessFlags := 18, nameIndex := 15, descriptorIndex := 12, attributes := #[] }])
  fields := #[{ name := "name", type := (.object "java/lang/String"), accessFlags := 18, slot := 0, constantValue := 0 }, { name := "overall", type := (.object "java/lang/String"), accessFlags := 18, slot := 1, constantValue := 0 }]
  methods := #[k3m0]
  instanceTypes := #[(.object "java/lang/String"), (.object "java/lang/String")]
  staticTypes := #[]
  resolved := Array.replicate 22 none
  statics := none }

def pool4 : Array CpInfo := pool [(1, .class_ 2), (0, u "java/io/Serializable"), (0, .class_ 4), (0, u "java/lang/Object")] 2

/-- java/io/Serializable -/
def k4 : Class := { plain "java/io/Serializable" (some 0) with
  accessFlags := 1537
  interfaces := #[]
  cf := some (fileOf pool4 1 #[] #[] 1537 3 #[] #[])
  fields := #[]
  methods := #[]
  instanceTypes := #[]
  staticTypes := #[]
  resolved := Array.replicate 7 none
  statics := none }

def pool5 : Array CpInfo := pool [(1, .class_ 2), (0, u "java/lang/Comparable"), (0, .class_ 4), (0, u "java/lang/Object")] 7

/-- java/lang/Comparable -/
def k5 : Class := { plain "java/lang/Comparable" (some 0) with
  accessFlags := 1537
  interfaces := #[]
  cf := some (fileOf pool5 1 #[] #[] 1537 3 #[] #[])
  fields := #[]
  methods := #[]
  instanceTypes := #[]
  staticTypes := #[]
  resolved := Array.replicate 12 none
  statics := none }

def pool6 : Array CpInfo := pool [(2, .class_ 4), (1, u "java/lang/CharSequence"), (42, .class_ 48), (0, u "java/lang/CharSequence$1CodePointIterator"), (10, .class_ 60), (0, u "java/lang/CharSequence$1CharIterator"), (5, .class_ 67), (0, u "java/lang/Object")] 63

/-- java/lang/CharSequence -/
def k6 : Class := { plain "java/lang/CharSequence" (some 0) with
  accessFlags := 1537
  interfaces := #[]
  cf := some (fileOf pool6 2 #[.nestMembers #[47, 59]] #[] 1537 66 #[] #[])
  fields := #[]
  methods := #[]
  instanceTypes := #[]
  staticTypes := #[]
  resolved := Array.replicate 131 none
  statics := none }

def pool7 : Array CpInfo := pool [(1, .class_ 2), (0, u "java/lang/constant/Constable"), (0, .class_ 4), (0, u "java/lang/Object")] 6

/-- java/lang/constant/Constable -/
def k7 : Class := { plain "java/lang/constant/Constable" (some 0) with
  accessFlags := 1537
  interfaces := #[]
  cf := some (fileOf pool7 1 #[] #[] 1537 3 #[] #[])
  fields := #[]
  methods := #[]
  instanceTypes := #[]
  staticTypes := #[]
  resolved := Array.replicate 11 none
  statics := none }

def pool8 : Array CpInfo := pool [(1, .class_ 2), (0, u "java/lang/constant/ConstantDesc"), (0, .class_ 4), (0, u "java/lang/Object")] 32

/-- java/lang/constant/ConstantDesc -/
def k8 : Class := { plain "java/lang/constant/ConstantDesc" (some 0) with
  accessFlags := 1537
  interfaces := #[]
  cf := some (fileOf pool8 1 #[] #[] 1537 3 #[] #[])
  fields := #[]
  methods := #[]
  instanceTypes := #[]
  staticTypes := #[]
  resolved := Array.replicate 37 none
  statics := none }

def pool9 : Array CpInfo := pool [(1, .methodref 2 3), (0, .class_ 4), (0, .nameAndType 5 6), (0, u "java/lang/Object"), (0, u "<init>"), (0, u "()V"), (2, .fieldref 10 11), (0, .class_ 12), (0, .nameAndType 13 14), (0, u "java/lang/String"), (0, u "value"), (0, u "[B"), (0, .fieldref 10 16), (0, .nameAndType 17 18), (0, u "coder"), (0, u "B"), (2, u "hash"), (0, u "I"), (2, u "hashIsZero"), (0, u "Z"), (11, .fieldref 10 39), (0, .nameAndType 40 26), (0, u "COMPACT_STRINGS"), (12, u "toBytes"), (53, .class_ 109), (1, u "java/lang/StringLatin1"), (99, .methodref 10 210), (0, .nameAndType 5 211), (0, u "([BB)V"), (157, u "(C)Z"), (205, .class_ 576), (0, u "java/lang/CharSequence"), (22, u "CASE_INSENSITIVE_ORDER"), (0, u "Ljava/util/Comparator;"), (181, u "valueOf"), (0, u "(C)Ljava/lang/String;"), (231, .methodref 107 1016), (0, .nameAndType 1017 369), (0, u "canEncode"), (0, .methodref 107 1019), (0, .nameAndType 53 1020), (0, u "(C)[B"), (80, u "serialPersistentFields"), (0, u "[Ljava/io/ObjectStreamField;"), (0, .class_ 1104), (0, u "java/lang/String$CaseInsensitiveComparator"), (1, .class_ 1107), (0, u "java/io/Serializable"), (0, .class_ 1109), (0, u "java/lang/Comparable"), (0, .class_ 1111), (0, u "java/lang/constant/Constable"), (0, .class_ 1113), (0, u "java/lang/constant/ConstantDesc"), (2, u "serialVersionUID"), (0, u "J"), (3, u "REPL"), (0, u "C"), (2, u "LATIN1"), (1, u "UTF16")] 323

def k9m0 : Method := { name := "<init>", desc := "()V", sig := { parameters := [], returnType := none }, accessFlags := 1, code := none }
def k9c1 : Code := { maxStack := 4, maxLocals := 1, code := jdk_42_method_139_code, exceptionTable := #[], attributes := #[] }
def k9m1 : Method := { name := "valueOf", desc := "(C)Ljava/lang/String;", sig := { parameters := [.char], returnType := some (.object "java/lang/String") }, accessFlags := 9, code := some k9c1 }
def k9c2 : Code := { maxStack := 2, maxLocals := 3, code := jdk_42_method_151_code, exceptionTable := #[], attributes := #[] }
def k9m2 : Method := { name := "<init>", desc := "([BB)V", sig := { parameters := [(.array .byte), .byte], returnType := none }, accessFlags := 0, code := some k9c2 }
/-- java/lang/String -/
def k9 : Class := { plain "java/lang/String" (some 0) with
  accessFlags := 49
  interfaces := #[4, 5, 6, 7, 8]
  cf := some (fileOf pool9 10 #[.nestMembers #[1103]] #[{ accessFlags := 1, nameIndex := 5, descriptorIndex := 6, attributes := #[] }, { accessFlags := 9, nameIndex := 782, descriptorIndex := 783, attributes := #[] }, { accessFlags := 0, nameIndex := 5, descriptorIndex := 211, attributes := #[] }] 49 2 #[1106, 1108, 575, 1110, 1112] #[{ accessFlags := 18, nameIndex := 13, descriptorIndex := 14, attributes := #[] }, { accessFlags := 18, nameIndex := 17, descriptorIndex := 18, attributes := #[] }, { accessFlags := 2, nameIndex := 21, descriptorIndex := 22, attributes := #[] }, { accessFlags := 2, nameIndex := 25, descriptorIndex := 26, attributes := #[] }, { accessFlags := 26, nameIndex := 1116, descriptorIndex := 1117, attributes := #[] }, { accessFlags := 24, nameIndex := 40, descriptorIndex := 26, attributes := #[] }, { accessFlags := 26, nameIndex := 1101, descriptorIndex := 1102, attributes := #[] }, { accessFlags := 26, nameIndex := 1121, descriptorIndex := 1122, attributes := #[] }, { accessFlags := 25, nameIndex := 599, descriptorIndex := 600, attributes := #[] }, { accessFlags := 24, nameIndex := 1125, descriptorIndex := 18, attributes := #[] }, { accessFlags := 24, nameIndex := 1127, descriptorIndex := 18, attributes := #[] }])
  fields := #[{ name := "value", type := (.array .byte), accessFlags := 18, slot := 0, constantValue := 0 }, { name := "coder", type := .byte, accessFlags := 18, slot := 1, constantValue := 0 }, { name := "hash", type := .int, accessFlags := 2, slot := 2, constantValue := 0 }, { name := "hashIsZero", type := .boolean, accessFlags := 2, slot := 3, constantValue := 0 }, { name := "serialVersionUID", type := .long, accessFlags := 26, slot := 0, constantValue := 0 }, { name := "COMPACT_STRINGS", type := .boolean, accessFlags := 24, slot := 1, constantValue := 0 }, { name := "serialPersistentFields", type := (.array (.object "java/io/ObjectStreamField")), accessFlags := 26, slot := 2, constantValue := 0 }, { name := "REPL", type := .char, accessFlags := 26, slot := 3, constantValue := 0 }, { name := "CASE_INSENSITIVE_ORDER", type := (.object "java/util/Comparator"), accessFlags := 25, slot := 4, constantValue := 0 }, { name := "LATIN1", type := .byte, accessFlags := 24, slot := 5, constantValue := 0 }, { name := "UTF16", type := .byte, accessFlags := 24, slot := 6, constantValue := 0 }]
  methods := #[k9m0, k9m1, k9m2]
  instanceTypes := #[(.array .byte), .byte, .int, .boolean]
  staticTypes := #[.long, .boolean, (.array (.object "java/io/ObjectStreamField")), .char, (.object "java/util/Comparator"), .byte, .byte]
  resolved := Array.replicate 1451 none
  statics := some 0 }

def pool10 : Array CpInfo := pool [(4, .class_ 6), (1, u "java/lang/Object"), (0, u "<init>"), (0, u "()V"), (5, .class_ 16), (1, u "java/lang/StringLatin1"), (73, u "canEncode"), (14, u "(C)Z"), (15, u "$assertionsDisabled"), (0, u "Z"), (98, .class_ 223), (1, u "java/lang/StringLatin1$LinesSpliterator"), (156, u "toBytes"), (1, u "(C)[B"), (7, .class_ 391), (0, u "java/lang/StringLatin1$CharsSpliterator")] 3

def k10m0 : Method := { name := "<init>", desc := "()V", sig := { parameters := [], returnType := none }, accessFlags := 0, code := none }
def k10c1 : Code := { maxStack := 2, maxLocals := 1, code := jdk_43_method_3_code, exceptionTable := #[], attributes := #[] }
def k10m1 : Method := { name := "canEncode", desc := "(C)Z", sig := { parameters := [.char], returnType := some .boolean }, accessFlags := 9, code := some k10c1 }
def k10c2 : Code := { maxStack := 4, maxLocals := 1, code := jdk_43_method_46_code, exceptionTable := #[], attributes := #[] }
def k10m2 : Method := { name := "toBytes", desc := "(C)[B", sig := { parameters := [.char], returnType := some (.array .byte) }, accessFlags := 9, code := some k10c2 }
/-- java/lang/StringLatin1 -/
def k10 : Class := { plain "java/lang/StringLatin1" (some 0) with
  accessFlags := 48
  interfaces := #[]
  cf := some (fileOf pool10 14 #[.nestMembers #[390, 221]] #[{ accessFlags := 0, nameIndex := 7, descriptorIndex := 8, attributes := #[] }, { accessFlags := 9, nameIndex := 90, descriptorIndex := 105, attributes := #[] }, { accessFlags := 9, nameIndex := 380, descriptorIndex := 382, attributes := #[] }] 48 4 #[] #[{ accessFlags := 4120, nameIndex := 121, descriptorIndex := 122, attributes := #[] }])
  fields := #[{ name := "$assertionsDisabled", type := .boolean, accessFlags := 4120, slot := 0, constantValue := 0 }]
  methods := #[k10m0, k10m1, k10m2]
  instanceTypes := #[]
  staticTypes := #[.boolean]
  resolved := Array.replicate 395 none
  statics := none }

def pool11 : Array CpInfo := pool [(8, .class_ 10), (1, u "java/lang/Iterable"), (24, .class_ 36), (0, u "java/lang/Object")] 25

/-- java/lang/Iterable -/
def k11 : Class := { plain "java/lang/Iterable" (some 0) with
  accessFlags := 1537
  interfaces := #[]
  cf := some (fileOf pool11 8 #[] #[] 1537 35 #[] #[])
  fields := #[]
  methods := #[]
  instanceTypes := #[]
  staticTypes := #[]
  resolved := Array.replicate 62 none
  statics := none }

def pool12 : Array CpInfo := pool [(10, .class_ 12), (1, u "java/util/Collection"), (0, u "toArray"), (16, u "()Z"), (29, .class_ 61), (0, u "java/lang/Object"), (0, .class_ 63), (0, u "java/lang/Iterable"), (2, u "isEmpty"), (3, u "()[Ljava/lang/Object;")] 44

def k12m0 : Method := { name := "isEmpty", desc := "()Z", sig := { parameters := [], returnType := some .boolean }, accessFlags := 1025, code := none }
def k12m1 : Method := { name := "toArray", desc := "()[Ljava/lang/Object;", sig := { parameters := [], returnType := some (.array (.object "java/lang/Object")) }, accessFlags := 1025, code := none }
/-- java/util/Collection -/
def k12 : Class := { plain "java/util/Collection" (some 0) with
  accessFlags := 1537
  interfaces := #[11]
  cf := some (fileOf pool12 10 #[] #[{ accessFlags := 1025, nameIndex := 66, descriptorIndex := 30, attributes := #[] }, { accessFlags := 1025, nameIndex := 13, descriptorIndex := 70, attributes := #[] }] 1537 60 #[62] #[])
  fields := #[]
  methods := #[k12m0, k12m1]
  instanceTypes := #[]
  staticTypes := #[]
  resolved := Array.replicate 115 none
  statics := none }

def pool13 : Array CpInfo := pool [(1, .methodref 2 3), (0, .class_ 4), (0, .nameAndType 5 6), (0, u "java/lang/Object"), (0, u "<init>"), (0, u "()V"), (1, .class_ 10), (1, u "java/util/AbstractCollection"), (66, .class_ 78), (0, u "java/util/Collection")] 81

def k13c0 : Code := { maxStack := 1, maxLocals := 1, code := jdk_22_method_1_code, exceptionTable := #[], attributes := #[] }
def k13m0 : Method := { name := "<init>", desc := "()V", sig := { parameters := [], returnType := none }, accessFlags := 4, code := some k13c0 }
/-- java/util/AbstractCollection -/
def k13 : Class := { plain "java/util/AbstractCollection" (some 0) with
  accessFlags := 1057
  interfaces := #[12]
  cf := some (fileOf pool13 8 #[] #[{ accessFlags := 4, nameIndex := 5, descriptorIndex := 6, attributes := #[] }] 1057 2 #[77] #[])
  fields := #[]
  methods := #[k13m0]
  instanceTypes := #[]
  staticTypes := #[]
  resolved := Array.replicate 160 none
  statics := none }

def pool14 : Array CpInfo := pool [(8, .class_ 10), (1, u "java/util/SequencedCollection"), (15, .class_ 27), (0, u "java/lang/Object"), (0, .class_ 29), (0, u "java/util/Collection")] 27

/-- java/util/SequencedCollection -/
def k14 : Class := { plain "java/util/SequencedCollection" (some 0) with
  accessFlags := 1537
  interfaces := #[12]
  cf := some (fileOf pool14 8 #[] #[] 1537 26 #[28] #[])
  fields := #[]
  methods := #[]
  instanceTypes := #[]
  staticTypes := #[]
  resolved := Array.replicate 57 none
  statics := none }

def pool15 : Array CpInfo := pool [(8, .class_ 10), (1, u "java/util/List"), (7, u "()Z"), (12, u "(Ljava/lang/Object;)V"), (16, u "<init>"), (11, u "add"), (3, u "(Ljava/lang/Object;)Z"), (2, u "isEmpty"), (20, u "of"), (1, .fieldref 91 92), (0, .class_ 93), (0, .nameAndType 94 95), (0, u "java/util/ImmutableCollections"), (0, u "EMPTY_LIST"), (0, u "Ljava/util/ImmutableCollections$ListN;"), (0, .class_ 97), (0, u "java/util/ImmutableCollections$List12"), (0, .methodref 96 99), (0, .nameAndType 48 31), (0, .methodref 96 101), (0, .nameAndType 48 102), (0, u "(Ljava/lang/Object;Ljava/lang/Object;)V"), (0, .class_ 104), (0, u "java/lang/Object"), (3, u "([Ljava/lang/Object;)Ljava/util/List;"), (0, .methodref 91 110), (0, .nameAndType 111 108), (0, u "listFromArray"), (0, .methodref 91 113), (0, .nameAndType 114 115), (0, u "listCopy"), (0, u "(Ljava/util/Collection;)Ljava/util/List;"), (3, u "()Ljava/util/List;"), (0, .class_ 121), (0, u "java/util/SequencedCollection"), (112, u "copyOf")] 16

def k15m0 : Method := { name := "isEmpty", desc := "()Z", sig := { parameters := [], returnType := some .boolean }, accessFlags := 1025, code := none }
def k15m1 : Method := { name := "add", desc := "(Ljava/lang/Object;)Z", sig := { parameters := [(.object "java/lang/Object")], returnType := some .boolean }, accessFlags := 1025, code := none }
def k15c2 : Code := { maxStack := 1, maxLocals := 0, code := jdk_40_method_36_code, exceptionTable := #[], attributes := #[] }
def k15m2 : Method := { name := "of", desc := "()Ljava/util/List;", sig := { parameters := [], returnType := some (.object "java/util/List") }, accessFlags := 9, code := some k15c2 }
def k15c3 : Code := { maxStack := 5, maxLocals := 2, code := jdk_40_method_47_code, exceptionTable := #[], attributes := #[] }
def k15m3 : Method := { name := "of", desc := "([Ljava/lang/Object;)Ljava/util/List;", sig := { parameters := [(.array (.object "java/lang/Object"))], returnType := some (.object "java/util/List") }, accessFlags := 137, code := some k15c3 }
def k15c4 : Code := { maxStack := 1, maxLocals := 1, code := jdk_40_method_48_code, exceptionTable := #[], attributes := #[] }
def k15m4 : Method := { name := "copyOf", desc := "(Ljava/util/Collection;)Ljava/util/List;", sig := { parameters := [(.object "java/util/Collection")], returnType := some (.object "java/util/List") }, accessFlags := 9, code := some k15c4 }
/-- java/util/List -/
def k15 : Class := { plain "java/util/List" (some 0) with
  accessFlags := 1537
  interfaces := #[14]
  cf := some (fileOf pool15 8 #[] #[{ accessFlags := 1025, nameIndex := 67, descriptorIndex := 18, attributes := #[] }, { accessFlags := 1025, nameIndex := 60, descriptorIndex := 64, attributes := #[] }, { accessFlags := 9, nameIndex := 88, descriptorIndex := 119, attributes := #[] }, { accessFlags := 137, nameIndex := 88, descriptorIndex := 108, attributes := #[] }, { accessFlags := 9, nameIndex := 234, descriptorIndex := 115, attributes := #[] }] 1537 103 #[120] #[])
  fields := #[]
  methods := #[k15m0, k15m1, k15m2, k15m3, k15m4]
  instanceTypes := #[]
  staticTypes := #[]
  resolved := Array.replicate 251 none
  statics := none }

def pool16 : Array CpInfo := pool [(1, .methodref 2 3), (0, .class_ 4), (0, .nameAndType 5 6), (0, u "java/util/AbstractCollection"), (0, u "<init>"), (0, u "()V"), (0, .fieldref 8 9), (0, .class_ 10), (0, .nameAndType 11 12), (0, u "java/util/AbstractList"), (0, u "modCount"), (0, u "I"), (64, .class_ 78), (0, u "java/util/AbstractList$Itr"), (3, .class_ 83), (0, u "java/util/AbstractList$ListItr"), (9, .class_ 94), (0, u "java/util/AbstractList$RandomAccessSubList"), (3, .class_ 99), (0, u "java/util/AbstractList$SubList"), (33, .class_ 134), (0, u "java/util/List"), (73, .class_ 209), (0, u "java/util/AbstractList$SubList$1"), (0, .class_ 211), (0, u "java/util/AbstractList$RandomAccessSpliterator")] 6

def k16c0 : Code := { maxStack := 2, maxLocals := 1, code := jdk_39_method_1_code, exceptionTable := #[], attributes := #[] }
def k16m0 : Method := { name := "<init>", desc := "()V", sig := { parameters := [], returnType := none }, accessFlags := 4, code := some k16c0 }
/-- java/util/AbstractList -/
def k16 : Class := { plain "java/util/AbstractList" (some 13) with
  accessFlags := 1057
  interfaces := #[15]
  cf := some (fileOf pool16 8 #[.nestMembers #[93, 98, 208, 210, 82, 77]] #[{ accessFlags := 4, nameIndex := 5, descriptorIndex := 6, attributes := #[] }] 1057 2 #[133] #[{ accessFlags := 132, nameIndex := 11, descriptorIndex := 12, attributes := #[] }])
  fields := #[{ name := "modCount", type := .int, accessFlags := 132, slot := 0, constantValue := 0 }]
  methods := #[k16m0]
  instanceTypes := #[.int]
  staticTypes := #[]
  resolved := Array.replicate 218 none
  statics := none }

def pool17 : Array CpInfo := pool [(1, .class_ 2), (0, u "java/util/RandomAccess"), (0, .class_ 4), (0, u "java/lang/Object")] 2

/-- java/util/RandomAccess -/
def k17 : Class := { plain "java/util/RandomAccess" (some 0) with
  accessFlags := 1537
  interfaces := #[]
  cf := some (fileOf pool17 1 #[] #[] 1537 3 #[] #[])
  fields := #[]
  methods := #[]
  instanceTypes := #[]
  staticTypes := #[]
  resolved := Array.replicate 7 none
  statics := none }

def pool18 : Array CpInfo := pool [(1, .class_ 2), (0, u "java/lang/Cloneable"), (0, .class_ 4), (0, u "java/lang/Object")] 2

/-- java/lang/Cloneable -/
def k18 : Class := { plain "java/lang/Cloneable" (some 0) with
  accessFlags := 1537
  interfaces := #[]
  cf := some (fileOf pool18 1 #[] #[] 1537 3 #[] #[])
  fields := #[]
  methods := #[]
  instanceTypes := #[]
  staticTypes := #[]
  resolved := Array.replicate 7 none
  statics := none }

def pool19 : Array CpInfo := pool [(1, .methodref 2 3), (0, .class_ 4), (0, .nameAndType 5 6), (0, u "java/util/AbstractList"), (0, u "<init>"), (0, u "()V"), (0, .class_ 8), (0, u "java/lang/Object"), (0, .fieldref 10 11), (0, .class_ 12), (0, .nameAndType 13 14), (0, u "java/util/ArrayList"), (0, u "elementData"), (0, u "[Ljava/lang/Object;"), (2, u "EMPTY_ELEMENTDATA"), (21, .fieldref 10 40), (0, .nameAndType 41 14), (0, u "DEFAULTCAPACITY_EMPTY_ELEMENTDATA"), (4, u "toArray"), (0, u "()[Ljava/lang/Object;"), (0, .fieldref 10 49), (0, .nameAndType 50 51), (0, u "size"), (0, u "I"), (6, .class_ 60), (1, u "java/util/Arrays"), (0, u "copyOf"), (1, .fieldref 10 64), (0, .nameAndType 65 51), (0, u "modCount"), (0, .methodref 58 67), (0, .nameAndType 61 68), (0, u "([Ljava/lang/Object;I)[Ljava/lang/Object;"), (0, .methodref 10 70), (0, .nameAndType 71 72), (0, u "grow"), (0, u "(I)[Ljava/lang/Object;"), (6, .methodref 80 81), (0, .class_ 82), (0, .nameAndType 83 84), (0, u "java/lang/Math"), (0, u "max"), (0, u "(II)I"), (11, u "(Ljava/lang/Object;)Z"), (32, .methodref 10 130), (0, .nameAndType 71 47), (0, .methodref 10 132), (0, .nameAndType 133 134), (0, u "add"), (0, u "(Ljava/lang/Object;[Ljava/lang/Object;I)V"), (13, .class_ 149), (0, u "java/util/List"), (23, u "()Z"), (88, .class_ 263), (0, u "java/util/ArrayList$ListItr"), (3, .class_ 268), (0, u "java/util/ArrayList$Itr"), (7, .class_ 277), (0, u "java/util/ArrayList$SubList"), (12, .class_ 291), (0, u "java/util/ArrayList$ArrayListSpliterator"), (37, .class_ 330), (0, u "java/util/RandomAccess"), (0, .class_ 332), (0, u "java/lang/Cloneable"), (0, .class_ 334), (0, u "java/io/Serializable"), (0, u "serialVersionUID"), (0, u "J"), (3, u "DEFAULT_CAPACITY"), (22, u "isEmpty"), (136, .class_ 501), (0, u "java/util/ArrayList$SubList$2"), (0, .class_ 503), (0, u "java/util/ArrayList$SubList$1")] 5

def k19c0 : Code := { maxStack := 2, maxLocals := 1, code := jdk_38_method_2_code, exceptionTable := #[], attributes := #[] }
def k19m0 : Method := { name := "<init>", desc := "()V", sig := { parameters := [], returnType := none }, accessFlags := 1, code := some k19c0 }
def k19c1 : Code := { maxStack := 4, maxLocals := 4, code := jdk_38_method_6_code, exceptionTable := #[], attributes := #[] }
def k19m1 : Method := { name := "grow", desc := "(I)[Ljava/lang/Object;", sig := { parameters := [.int], returnType := some (.array (.object "java/lang/Object")) }, accessFlags := 2, code := some k19c1 }
def k19c2 : Code := { maxStack := 3, maxLocals := 1, code := jdk_38_method_7_code, exceptionTable := #[], attributes := #[] }
def k19m2 : Method := { name := "grow", desc := "()[Ljava/lang/Object;", sig := { parameters := [], returnType := some (.array (.object "java/lang/Object")) }, accessFlags := 2, code := some k19c2 }
def k19c3 : Code := { maxStack := 1, maxLocals := 1, code := jdk_38_method_9_code, exceptionTable := #[], attributes := #[] }
def k19m3 : Method := { name := "isEmpty", desc := "()Z", sig := { parameters := [], returnType := some .boolean }, accessFlags := 1, code := some k19c3 }
def k19c4 : Code := { maxStack := 2, maxLocals := 1, code := jdk_38_method_16_code, exceptionTable := #[], attributes := #[] }
def k19m4 : Method := { name := "toArray", desc := "()[Ljava/lang/Object;", sig := { parameters := [], returnType := some (.array (.object "java/lang/Object")) }, accessFlags := 1, code := some k19c4 }
def k19c5 : Code := { maxStack := 3, maxLocals := 4, code := jdk_38_method_24_code, exceptionTable := #[], attributes := #[] }
def k19m5 : Method := { name := "add", desc := "(Ljava/lang/Object;[Ljava/lang/Object;I)V", sig := { parameters := [(.object "java/lang/Object"), (.array (.object "java/lang/Object")), .int], returnType := none }, accessFlags := 2, code := some k19c5 }
def k19c6 : Code := { maxStack := 4, maxLocals := 2, code := jdk_38_method_25_code, exceptionTable := #[], attributes := #[] }
def k19m6 : Method := { name := "add", desc := "(Ljava/lang/Object;)Z", sig := { parameters := [(.object "java/lang/Object")], returnType := some .boolean }, accessFlags := 1, code := some k19c6 }
/-- java/util/ArrayList -/
def k19 : Class := { plain "java/util/ArrayList" (some 16) with
  accessFlags := 33
  interfaces := #[15, 17, 18, 4]
  cf := some (fileOf pool19 10 #[.nestMembers #[290, 276, 500, 502, 262, 267]] #[{ accessFlags := 1, nameIndex := 5, descriptorIndex := 6, attributes := #[] }, { accessFlags := 2, nameIndex := 71, descriptorIndex := 72, attributes := #[] }, { accessFlags := 2, nameIndex := 71, descriptorIndex := 47, attributes := #[] }, { accessFlags := 1, nameIndex := 363, descriptorIndex := 173, attributes := #[] }, { accessFlags := 1, nameIndex := 46, descriptorIndex := 47, attributes := #[] }, { accessFlags := 2, nameIndex := 133, descriptorIndex := 134, attributes := #[] }, { accessFlags := 1, nameIndex := 133, descriptorIndex := 96, attributes := #[] }] 33 2 #[148, 329, 331, 333] #[{ accessFlags := 26, nameIndex := 335, descriptorIndex := 336, attributes := #[] }, { accessFlags := 26, nameIndex := 340, descriptorIndex := 51, attributes := #[] }, { accessFlags := 26, nameIndex := 17, descriptorIndex := 14, attributes := #[] }, { accessFlags := 26, nameIndex := 41, descriptorIndex := 14, attributes := #[] }, { accessFlags := 128, nameIndex := 13, descriptorIndex := 14, attributes := #[] }, { accessFlags := 2, nameIndex := 50, descriptorIndex := 51, attributes := #[] }])
  fields := #[{ name := "serialVersionUID", type := .long, accessFlags := 26, slot := 0, constantValue := 0 }, { name := "DEFAULT_CAPACITY", type := .int, accessFlags := 26, slot := 1, constantValue := 0 }, { name := "EMPTY_ELEMENTDATA", type := (.array (.object "java/lang/Object")), accessFlags := 26, slot := 2, constantValue := 0 }, { name := "DEFAULTCAPACITY_EMPTY_ELEMENTDATA", type := (.array (.object "java/lang/Object")), accessFlags := 26, slot := 3, constantValue := 0 }, { name := "elementData", type := (.array (.object "java/lang/Object")), accessFlags := 128, slot := 1, constantValue := 0 }, { name := "size", type := .int, accessFlags := 2, slot := 2, constantValue := 0 }]
  methods := #[k19m0, k19m1, k19m2, k19m3, k19m4, k19m5, k19m6]
  instanceTypes := #[.int, (.array (.object "java/lang/Object")), .int]
  staticTypes := #[.long, .int, (.array (.object "java/lang/Object")), (.array (.object "java/lang/Object"))]
  resolved := Array.replicate 509 none
  statics := some 1 }

def pool20 : Array CpInfo := pool [(1, .class_ 2), (0, u "java/lang/Math"), (1, .class_ 6), (1, u "java/lang/Object"), (0, u "<init>"), (0, u "()V"), (89, .class_ 100), (1, u "java/lang/Math$RandomNumberGeneratorHolder"), (71, u "negativeZeroFloatBits"), (0, u "J"), (2, u "negativeZeroDoubleBits"), (21, u "max"), (2, u "min"), (43, u "$assertionsDisabled"), (0, u "Z"), (88, u "(II)I"), (2, u "twoToTheDoubleScaleDown"), (0, u "D"), (4, u "twoToTheDoubleScaleUp"), (9, u "E"), (3, u "PI"), (2, u "TAU"), (2, u "DEGREES_TO_RADIANS"), (0, u "RADIANS_TO_DEGREES")] 94

def k20m0 : Method := { name := "<init>", desc := "()V", sig := { parameters := [], returnType := none }, accessFlags := 2, code := none }
def k20c1 : Code := { maxStack := 2, maxLocals := 2, code := jdk_29_method_65_code, exceptionTable := #[], attributes := #[] }
def k20m1 : Method := { name := "max", desc := "(II)I", sig := { parameters := [.int, .int], returnType := some .int }, accessFlags := 9, code := some k20c1 }
def k20c2 : Code := { maxStack := 2, maxLocals := 2, code := jdk_29_method_69_code, exceptionTable := #[], attributes := #[] }
def k20m2 : Method := { name := "min", desc := "(II)I", sig := { parameters := [.int, .int], returnType := some .int }, accessFlags := 9, code := some k20c2 }
/-- java/lang/Math -/
def k20 : Class := { plain "java/lang/Math" (some 0) with
  accessFlags := 49
  interfaces := #[]
  cf := some (fileOf pool20 1 #[.nestMembers #[98]] #[{ accessFlags := 2, nameIndex := 7, descriptorIndex := 8, attributes := #[] }, { accessFlags := 9, nameIndex := 198, descriptorIndex := 335, attributes := #[] }, { accessFlags := 9, nameIndex := 201, descriptorIndex := 335, attributes := #[] }] 49 4 #[] #[{ accessFlags := 25, nameIndex := 354, descriptorIndex := 339, attributes := #[] }, { accessFlags := 25, nameIndex := 358, descriptorIndex := 339, attributes := #[] }, { accessFlags := 25, nameIndex := 361, descriptorIndex := 339, attributes := #[] }, { accessFlags := 26, nameIndex := 364, descriptorIndex := 339, attributes := #[] }, { accessFlags := 26, nameIndex := 365, descriptorIndex := 339, attributes := #[] }, { accessFlags := 26, nameIndex := 172, descriptorIndex := 173, attributes := #[] }, { accessFlags := 26, nameIndex := 176, descriptorIndex := 173, attributes := #[] }, { accessFlags := 8, nameIndex := 344, descriptorIndex := 339, attributes := #[] }, { accessFlags := 8, nameIndex := 338, descriptorIndex := 339, attributes := #[] }, { accessFlags := 4120, nameIndex := 245, descriptorIndex := 246, attributes := #[] }])
  fields := #[{ name := "E", type := .double, accessFlags := 25, slot := 0, constantValue := 0 }, { name := "PI", type := .double, accessFlags := 25, slot := 1, constantValue := 0 }, { name := "TAU", type := .double, accessFlags := 25, slot := 2, constantValue := 0 }, { name := "DEGREES_TO_RADIANS", type := .double, accessFlags := 26, slot := 3, constantValue := 0 }, { name := "RADIANS_TO_DEGREES", type := .double, accessFlags := 26, slot := 4, constantValue := 0 }, { name := "negativeZeroFloatBits", type := .long, accessFlags := 26, slot := 5, constantValue := 0 }, { name := "negativeZeroDoubleBits", type := .long, accessFlags := 26, slot := 6, constantValue := 0 }, { name := "twoToTheDoubleScaleUp", type := .double, accessFlags := 8, slot := 7, constantValue := 0 }, { name := "twoToTheDoubleScaleDown", type := .double, accessFlags := 8, slot := 8, constantValue := 0 }, { name := "$assertionsDisabled", type := .boolean, accessFlags := 4120, slot := 9, constantValue := 0 }]
  methods := #[k20m0, k20m1, k20m2]
  instanceTypes := #[]
  staticTypes := #[.double, .double, .double, .double, .double, .long, .long, .double, .double, .boolean]
  resolved := Array.replicate 460 none
  statics := none }

def pool21 : Array CpInfo := pool [(1, .methodref 2 3), (0, .class_ 4), (0, .nameAndType 5 6), (0, u "java/lang/Object"), (0, u "<init>"), (0, u "()V"), (0, .interfaceMethodref 8 9), (0, .class_ 10), (0, .nameAndType 11 12), (0, u "java/util/List"), (0, u "copyOf"), (0, u "(Ljava/util/Collection;)Ljava/util/List;"), (0, .fieldref 14 15), (0, .class_ 16), (0, .nameAndType 17 18), (0, u "com/example/plumbline/plumbline/Grades"), (0, u "area"), (0, u "Ljava/util/List;"), (0, .fieldref 14 20), (0, .nameAndType 21 18), (0, u "total"), (0, .interfaceMethodref 8 23), (0, .nameAndType 24 25), (0, u "isEmpty"), (0, u "()Z"), (20, u "gradesAreas"), (84, u "(Ljava/util/List;Ljava/util/List;)V")] 35

def k21c0 : Code := { maxStack := 2, maxLocals := 3, code := prog_32_method_1_code, exceptionTable := #[], attributes := #[] }
def k21m0 : Method := { name := "<init>", desc := "(Ljava/util/List;Ljava/util/List;)V", sig := { parameters := [(.object "java/util/List"), (.object "java/util/List")], returnType := none }, accessFlags := 1, code := some k21c0 }
def k21c1 : Code := { maxStack := 1, maxLocals := 1, code := prog_32_method_2_code, exceptionTable := #[], attributes := #[] }
def k21m1 : Method := { name := "gradesAreas", desc := "()Z", sig := { parameters := [], returnType := some .boolean }, accessFlags := 1, code := some k21c1 }
/-- com/example/plumbline/plumbline/Grades -/
def k21 : Class := { plain "com/example/plumbline/plumbline/Grades" (some 0) with
  accessFlags := 49
  interfaces := #[]
  cf := some (fileOf pool21 14 #[] #[{ accessFlags := 1, nameIndex := 5, descriptorIndex := 131, attributes := #[] }, { accessFlags := 1, nameIndex := 46, descriptorIndex := 25, attributes := #[] }] 49 2 #[] #[{ accessFlags := 18, nameIndex := 17, descriptorIndex := 18, attributes := #[] }, { accessFlags := 18, nameIndex := 21, descriptorIndex := 18, attributes := #[] }])
  fields := #[{ name := "area", type := (.object "java/util/List"), accessFlags := 18, slot := 0, constantValue := 0 }, { name := "total", type := (.object "java/util/List"), accessFlags := 18, slot := 1, constantValue := 0 }]
  methods := #[k21m0, k21m1]
  instanceTypes := #[(.object "java/util/List"), (.object "java/util/List")]
  staticTypes := #[]
  resolved := Array.replicate 167 none
  statics := none }

def pool22 : Array CpInfo := pool [(2, .class_ 4), (1, u "java/lang/Object"), (0, u "<init>"), (0, u "()V"), (3, .class_ 11), (0, u "java/util/ImmutableCollections$List12"), (0, .class_ 13), (0, u "java/util/ImmutableCollections$ListN"), (3, u "Z"), (0, .class_ 19), (0, u "java/util/List"), (0, .interfaceMethodref 21 22), (0, .class_ 23), (0, .nameAndType 24 25), (0, u "java/util/Collection"), (0, u "isEmpty"), (0, u "()Z"), (0, .interfaceMethodref 18 27), (0, .nameAndType 28 29), (0, u "of"), (0, u "()Ljava/util/List;"), (0, .interfaceMethodref 21 31), (0, .nameAndType 32 33), (0, u "toArray"), (0, u "()[Ljava/lang/Object;"), (0, .interfaceMethodref 18 35), (0, .nameAndType 28 36), (0, u "([Ljava/lang/Object;)Ljava/util/List;"), (0, .methodref 38 39), (0, .class_ 40), (0, .nameAndType 41 42), (0, u "java/util/Objects"), (0, u "requireNonNull"), (0, u "(Ljava/lang/Object;)Ljava/lang/Object;"), (0, .methodref 12 44), (0, .nameAndType 5 45), (0, u "([Ljava/lang/Object;Z)V"), (1, .class_ 49), (1, u "java/util/ImmutableCollections"), (0, u "$assertionsDisabled"), (5, u "[Ljava/lang/Object;"), (5, u "EMPTY_LIST"), (0, u "Ljava/util/ImmutableCollections$ListN;"), (8, u "EMPTY_LIST_NULLS"), (22, u "SALT32L"), (0, u "J"), (2, u "REVERSE"), (6, u "archivedObjects"), (2, u "EMPTY"), (0, u "Ljava/lang/Object;"), (0, .class_ 112), (0, u "java/util/ImmutableCollections$SetN"), (5, u "EMPTY_SET"), (0, u "Ljava/util/ImmutableCollections$SetN;"), (0, .class_ 121), (0, u "java/util/ImmutableCollections$MapN"), (3, u "EMPTY_MAP"), (0, u "Ljava/util/ImmutableCollections$MapN;"), (4, u "EXPAND_FACTOR"), (0, u "I"), (9, u "listCopy"), (0, u "(Ljava/util/Collection;)Ljava/util/List;"), (7, u "listFromArray"), (17, .class_ 170), (0, u "java/util/ImmutableCollections$MapN$MapNIterator"), (0, .class_ 172), (0, u "java/util/ImmutableCollections$MapN$1"), (0, .class_ 174), (0, u "java/util/ImmutableCollections$Map1"), (0, .class_ 176), (0, u "java/util/ImmutableCollections$AbstractImmutableMap"), (0, .class_ 178), (0, u "java/util/ImmutableCollections$SetN$SetNIterator"), (0, .class_ 180), (0, u "java/util/ImmutableCollections$Set12"), (0, .class_ 182), (0, u "java/util/ImmutableCollections$Set12$1"), (0, .class_ 184), (0, u "java/util/ImmutableCollections$AbstractImmutableSet"), (0, .class_ 186), (0, u "java/util/ImmutableCollections$SubList"), (0, .class_ 188), (0, u "java/util/ImmutableCollections$ListItr"), (0, .class_ 190), (0, u "java/util/ImmutableCollections$AbstractImmutableList"), (0, .class_ 192), (0, u "java/util/ImmutableCollections$AbstractImmutableCollection"), (0, .class_ 194), (0, u "java/util/ImmutableCollections$Access"), (0, .class_ 196), (0, u "java/util/ImmutableCollections$Access$1")] 16

def k22m0 : Method := { name := "<init>", desc := "()V", sig := { parameters := [], returnType := none }, accessFlags := 2, code := none }
def k22c1 : Code := { maxStack := 1, maxLocals := 2, code := jdk_56_method_3_code, exceptionTable := #[], attributes := #[] }
def k22m1 : Method := { name := "listCopy", desc := "(Ljava/util/Collection;)Ljava/util/List;", sig := { parameters := [(.object "java/util/Collection")], returnType := some (.object "java/util/List") }, accessFlags := 8, code := some k22c1 }
def k22c2 : Code := { maxStack := 4, maxLocals := 3, code := jdk_56_method_4_code, exceptionTable := #[], attributes := #[] }
def k22m2 : Method := { name := "listFromArray", desc := "([Ljava/lang/Object;)Ljava/util/List;", sig := { parameters := [(.array (.object "java/lang/Object"))], returnType := some (.object "java/util/List") }, accessFlags := 136, code := some k22c2 }
/-- java/util/ImmutableCollections -/
def k22 : Class := { plain "java/util/ImmutableCollections" (some 0) with
  accessFlags := 32
  interfaces := #[]
  cf := some (fileOf pool22 47 #[.nestMembers #[120, 169, 171, 173, 175, 111, 177, 179, 181, 183, 12, 10, 185, 187, 189, 191, 193, 195]] #[{ accessFlags := 2, nameIndex := 5, descriptorIndex := 6, attributes := #[] }, { accessFlags := 8, nameIndex := 142, descriptorIndex := 143, attributes := #[] }, { accessFlags := 136, nameIndex := 151, descriptorIndex := 36, attributes := #[] }] 32 2 #[] #[{ accessFlags := 26, nameIndex := 95, descriptorIndex := 96, attributes := #[] }, { accessFlags := 26, nameIndex := 99, descriptorIndex := 17, attributes := #[] }, { accessFlags := 10, nameIndex := 106, descriptorIndex := 56, attributes := #[] }, { accessFlags := 26, nameIndex := 109, descriptorIndex := 110, attributes := #[] }, { accessFlags := 24, nameIndex := 62, descriptorIndex := 63, attributes := #[] }, { accessFlags := 24, nameIndex := 72, descriptorIndex := 63, attributes := #[] }, { accessFlags := 24, nameIndex := 118, descriptorIndex := 119, attributes := #[] }, { accessFlags := 24, nameIndex := 125, descriptorIndex := 126, attributes := #[] }, { accessFlags := 24, nameIndex := 131, descriptorIndex := 132, attributes := #[] }, { accessFlags := 4120, nameIndex := 50, descriptorIndex := 17, attributes := #[] }])
  fields := #[{ name := "SALT32L", type := .long, accessFlags := 26, slot := 0, constantValue := 0 }, { name := "REVERSE", type := .boolean, accessFlags := 26, slot := 1, constantValue := 0 }, { name := "archivedObjects", type := (.array (.object "java/lang/Object")), accessFlags := 10, slot := 2, constantValue := 0 }, { name := "EMPTY", type := (.object "java/lang/Object"), accessFlags := 26, slot := 3, constantValue := 0 }, { name := "EMPTY_LIST", type := (.object "java/util/ImmutableCollections$ListN"), accessFlags := 24, slot := 4, constantValue := 0 }, { name := "EMPTY_LIST_NULLS", type := (.object "java/util/ImmutableCollections$ListN"), accessFlags := 24, slot := 5, constantValue := 0 }, { name := "EMPTY_SET", type := (.object "java/util/ImmutableCollections$SetN"), accessFlags := 24, slot := 6, constantValue := 0 }, { name := "EMPTY_MAP", type := (.object "java/util/ImmutableCollections$MapN"), accessFlags := 24, slot := 7, constantValue := 0 }, { name := "EXPAND_FACTOR", type := .int, accessFlags := 24, slot := 8, constantValue := 0 }, { name := "$assertionsDisabled", type := .boolean, accessFlags := 4120, slot := 9, constantValue := 0 }]
  methods := #[k22m0, k22m1, k22m2]
  instanceTypes := #[]
  staticTypes := #[.long, .boolean, (.array (.object "java/lang/Object")), (.object "java/lang/Object"), (.object "java/util/ImmutableCollections$ListN"), (.object "java/util/ImmutableCollections$ListN"), (.object "java/util/ImmutableCollections$SetN"), (.object "java/util/ImmutableCollections$MapN"), .int, .boolean]
  resolved := Array.replicate 213 none
  statics := some 2 }

def pool23 : Array CpInfo := pool [(1, .methodref 2 3), (0, .class_ 4), (0, .nameAndType 5 6), (0, u "java/util/AbstractCollection"), (0, u "<init>"), (0, u "()V"), (1, .class_ 10), (1, u "java/util/ImmutableCollections"), (2, .class_ 14), (0, u "java/util/ImmutableCollections$AbstractImmutableCollection")] 41

def k23c0 : Code := { maxStack := 1, maxLocals := 1, code := jdk_47_method_1_code, exceptionTable := #[], attributes := #[] }
def k23m0 : Method := { name := "<init>", desc := "()V", sig := { parameters := [], returnType := none }, accessFlags := 0, code := some k23c0 }
/-- java/util/ImmutableCollections$AbstractImmutableCollection -/
def k23 : Class := { plain "java/util/ImmutableCollections$AbstractImmutableCollection" (some 13) with
  accessFlags := 1056
  interfaces := #[]
  cf := some (fileOf pool23 13 #[.nestHost 8] #[{ accessFlags := 0, nameIndex := 5, descriptorIndex := 6, attributes := #[] }] 1056 2 #[] #[])
  fields := #[]
  methods := #[k23m0]
  instanceTypes := #[]
  staticTypes := #[]
  resolved := Array.replicate 56 none
  statics := none }

def pool24 : Array CpInfo := pool [(1, .methodref 2 3), (0, .class_ 4), (0, .nameAndType 5 6), (0, u "java/util/ImmutableCollections$AbstractImmutableCollection"), (0, u "<init>"), (0, u "()V"), (1, .class_ 10), (1, u "java/util/ImmutableCollections"), (3, .class_ 16), (1, u "java/util/ImmutableCollections$AbstractImmutableList"), (60, .class_ 78), (0, u "java/util/List"), (45, .class_ 125), (0, u "java/util/RandomAccess")] 70

def k24c0 : Code := { maxStack := 1, maxLocals := 1, code := jdk_46_method_1_code, exceptionTable := #[], attributes := #[] }
def k24m0 : Method := { name := "<init>", desc := "()V", sig := { parameters := [], returnType := none }, accessFlags := 0, code := some k24c0 }
/-- java/util/ImmutableCollections$AbstractImmutableList -/
def k24 : Class := { plain "java/util/ImmutableCollections$AbstractImmutableList" (some 23) with
  accessFlags := 1056
  interfaces := #[15, 17]
  cf := some (fileOf pool24 14 #[.nestHost 8] #[{ accessFlags := 0, nameIndex := 5, descriptorIndex := 6, attributes := #[] }] 1056 2 #[77, 124] #[])
  fields := #[]
  methods := #[k24m0]
  instanceTypes := #[]
  staticTypes := #[]
  resolved := Array.replicate 196 none
  statics := none }

def pool25 : Array CpInfo := pool [(1, .methodref 2 3), (0, .class_ 4), (0, .nameAndType 5 6), (0, u "java/util/ImmutableCollections$AbstractImmutableList"), (0, u "<init>"), (0, u "()V"), (0, .methodref 8 9), (0, .class_ 10), (0, .nameAndType 11 12), (0, u "java/util/Objects"), (0, u "requireNonNull"), (0, u "(Ljava/lang/Object;)Ljava/lang/Object;"), (0, .fieldref 14 15), (0, .class_ 16), (0, .nameAndType 17 18), (0, u "java/util/ImmutableCollections$List12"), (0, u "e0"), (0, u "Ljava/lang/Object;"), (0, .fieldref 20 21), (0, .class_ 22), (0, .nameAndType 23 18), (0, u "java/util/ImmutableCollections"), (0, u "EMPTY"), (0, .fieldref 14 25), (0, .nameAndType 26 18), (0, u "e1"), (43, .class_ 71), (0, u "java/io/Serializable"), (4, u "(Ljava/lang/Object;)V"), (8, u "(Ljava/lang/Object;Ljava/lang/Object;)V"), (2, u "isEmpty"), (0, u "()Z")] 35

def k25c0 : Code := { maxStack := 2, maxLocals := 2, code := jdk_44_method_1_code, exceptionTable := #[], attributes := #[] }
def k25m0 : Method := { name := "<init>", desc := "(Ljava/lang/Object;)V", sig := { parameters := [(.object "java/lang/Object")], returnType := none }, accessFlags := 0, code := some k25c0 }
def k25c1 : Code := { maxStack := 2, maxLocals := 3, code := jdk_44_method_2_code, exceptionTable := #[], attributes := #[] }
def k25m1 : Method := { name := "<init>", desc := "(Ljava/lang/Object;Ljava/lang/Object;)V", sig := { parameters := [(.object "java/lang/Object"), (.object "java/lang/Object")], returnType := none }, accessFlags := 0, code := some k25c1 }
def k25c2 : Code := { maxStack := 1, maxLocals := 1, code := jdk_44_method_4_code, exceptionTable := #[], attributes := #[] }
def k25m2 : Method := { name := "isEmpty", desc := "()Z", sig := { parameters := [], returnType := some .boolean }, accessFlags := 1, code := some k25c2 }
/-- java/util/ImmutableCollections$List12 -/
def k25 : Class := { plain "java/util/ImmutableCollections$List12" (some 24) with
  accessFlags := 48
  interfaces := #[4]
  cf := some (fileOf pool25 14 #[.nestHost 20] #[{ accessFlags := 0, nameIndex := 5, descriptorIndex := 76, attributes := #[] }, { accessFlags := 0, nameIndex := 5, descriptorIndex := 85, attributes := #[] }, { accessFlags := 1, nameIndex := 88, descriptorIndex := 89, attributes := #[] }] 48 2 #[70] #[{ accessFlags := 18, nameIndex := 17, descriptorIndex := 18, attributes := #[] }, { accessFlags := 18, nameIndex := 26, descriptorIndex := 18, attributes := #[] }])
  fields := #[{ name := "e0", type := (.object "java/lang/Object"), accessFlags := 18, slot := 0, constantValue := 0 }, { name := "e1", type := (.object "java/lang/Object"), accessFlags := 18, slot := 1, constantValue := 0 }]
  methods := #[k25m0, k25m1, k25m2]
  instanceTypes := #[(.object "java/lang/Object"), (.object "java/lang/Object")]
  staticTypes := #[]
  resolved := Array.replicate 125 none
  statics := none }

def pool26 : Array CpInfo := pool [(1, .methodref 2 3), (0, .class_ 4), (0, .nameAndType 5 6), (0, u "java/util/ImmutableCollections$AbstractImmutableList"), (0, u "<init>"), (0, u "()V"), (0, .fieldref 8 9), (0, .class_ 10), (0, .nameAndType 11 12), (0, u "java/util/ImmutableCollections$ListN"), (0, u "elements"), (0, u "[Ljava/lang/Object;"), (0, .fieldref 8 14), (0, .nameAndType 15 16), (0, u "allowNulls"), (0, u "Z"), (42, .class_ 60), (0, u "java/io/Serializable"), (4, u "([Ljava/lang/Object;Z)V"), (8, u "isEmpty"), (0, u "()Z"), (38, .class_ 115), (0, u "java/util/ImmutableCollections")] 3

def k26c0 : Code := { maxStack := 2, maxLocals := 3, code := jdk_45_method_1_code, exceptionTable := #[], attributes := #[] }
def k26m0 : Method := { name := "<init>", desc := "([Ljava/lang/Object;Z)V", sig := { parameters := [(.array (.object "java/lang/Object")), .boolean], returnType := none }, accessFlags := 2, code := some k26c0 }
def k26c1 : Code := { maxStack := 1, maxLocals := 1, code := jdk_45_method_2_code, exceptionTable := #[], attributes := #[] }
def k26m1 : Method := { name := "isEmpty", desc := "()Z", sig := { parameters := [], returnType := some .boolean }, accessFlags := 1, code := some k26c1 }
/-- java/util/ImmutableCollections$ListN -/
def k26 : Class := { plain "java/util/ImmutableCollections$ListN" (some 24) with
  accessFlags := 48
  interfaces := #[4]
  cf := some (fileOf pool26 8 #[.nestHost 114] #[{ accessFlags := 2, nameIndex := 5, descriptorIndex := 65, attributes := #[] }, { accessFlags := 1, nameIndex := 74, descriptorIndex := 75, attributes := #[] }] 48 2 #[59] #[{ accessFlags := 18, nameIndex := 11, descriptorIndex := 12, attributes := #[] }, { accessFlags := 18, nameIndex := 15, descriptorIndex := 16, attributes := #[] }])
  fields := #[{ name := "elements", type := (.array (.object "java/lang/Object")), accessFlags := 18, slot := 0, constantValue := 0 }, { name := "allowNulls", type := .boolean, accessFlags := 18, slot := 1, constantValue := 0 }]
  methods := #[k26m0, k26m1]
  instanceTypes := #[(.array (.object "java/lang/Object")), .boolean]
  staticTypes := #[]
  resolved := Array.replicate 119 none
  statics := none }

def pool27 : Array CpInfo := pool [(2, .class_ 4), (1, u "java/lang/Object"), (0, u "<init>"), (0, u "()V"), (7, .class_ 16), (1, u "java/util/Arrays"), (57, .class_ 76), (1, u "java/util/Arrays$NaturalOrder"), (9, .methodref 2 87), (0, .nameAndType 88 89), (0, u "getClass"), (0, u "()Ljava/lang/Class;"), (20, .class_ 111), (0, u "[Ljava/lang/Object;"), (1, .class_ 115), (1, u "java/util/Arrays$LegacyMergeSort"), (1, u "Z"), (32, .methodref 151 152), (0, .class_ 153), (0, .nameAndType 154 155), (0, u "java/lang/System"), (0, u "arraycopy"), (0, u "(Ljava/lang/Object;ILjava/lang/Object;II)V"), (144, .methodref 14 301), (0, .nameAndType 302 303), (0, u "copyOf"), (0, u "([Ljava/lang/Object;ILjava/lang/Class;)[Ljava/lang/Object;"), (0, .methodref 305 306), (0, .class_ 307), (0, .nameAndType 308 309), (0, u "java/lang/Math"), (0, u "min"), (0, u "(II)I"), (65, .class_ 376), (0, u "java/util/Arrays$ArrayList"), (68, u "$assertionsDisabled"), (269, u "MIN_ARRAY_SORT_GRAN"), (0, u "I"), (2, u "INSERTIONSORT_THRESHOLD"), (140, u "([Ljava/lang/Object;I)[Ljava/lang/Object;"), (114, .class_ 976), (0, u "java/util/Arrays$ArrayItr")] 52

def k27m0 : Method := { name := "<init>", desc := "()V", sig := { parameters := [], returnType := none }, accessFlags := 2, code := none }
def k27c1 : Code := { maxStack := 3, maxLocals := 2, code := jdk_65_method_119_code, exceptionTable := #[], attributes := #[] }
def k27m1 : Method := { name := "copyOf", desc := "([Ljava/lang/Object;I)[Ljava/lang/Object;", sig := { parameters := [(.array (.object "java/lang/Object")), .int], returnType := some (.array (.object "java/lang/Object")) }, accessFlags := 9, code := some k27c1 }
def k27c2 : Code := { maxStack := 6, maxLocals := 4, code := jdk_65_method_120_code, exceptionTable := #[], attributes := #[] }
def k27m2 : Method := { name := "copyOf", desc := "([Ljava/lang/Object;ILjava/lang/Class;)[Ljava/lang/Object;", sig := { parameters := [(.array (.object "java/lang/Object")), .int, (.object "java/lang/Class")], returnType := some (.array (.object "java/lang/Object")) }, accessFlags := 9, code := some k27c2 }
/-- java/util/Arrays -/
def k27 : Class := { plain "java/util/Arrays" (some 0) with
  accessFlags := 49
  interfaces := #[]
  cf := some (fileOf pool27 14 #[.nestMembers #[975, 375, 113, 74]] #[{ accessFlags := 2, nameIndex := 5, descriptorIndex := 6, attributes := #[] }, { accessFlags := 9, nameIndex := 302, descriptorIndex := 860, attributes := #[] }, { accessFlags := 9, nameIndex := 302, descriptorIndex := 303, attributes := #[] }] 49 2 #[] #[{ accessFlags := 26, nameIndex := 715, descriptorIndex := 716, attributes := #[] }, { accessFlags := 26, nameIndex := 719, descriptorIndex := 716, attributes := #[] }, { accessFlags := 4120, nameIndex := 445, descriptorIndex := 117, attributes := #[] }])
  fields := #[{ name := "MIN_ARRAY_SORT_GRAN", type := .int, accessFlags := 26, slot := 0, constantValue := 0 }, { name := "INSERTIONSORT_THRESHOLD", type := .int, accessFlags := 26, slot := 1, constantValue := 0 }, { name := "$assertionsDisabled", type := .boolean, accessFlags := 4120, slot := 2, constantValue := 0 }]
  methods := #[k27m0, k27m1, k27m2]
  instanceTypes := #[]
  staticTypes := #[.int, .int, .boolean]
  resolved := Array.replicate 1029 none
  statics := none }

def pool28 : Array CpInfo := pool [(2, .class_ 4), (1, u "java/lang/Object"), (0, u "<init>"), (0, u "()V"), (1, .class_ 10), (1, u "java/lang/System"), (0, u "allowSecurityManager"), (0, u "I"), (16, u "cons"), (0, u "Ljava/io/Console;"), (77, .class_ 110), (1, u "java/lang/System$CallersHolder"), (43, u "initialErrStream"), (0, u "Ljava/io/PrintStream;"), (19, u "security"), (0, u "Ljava/lang/SecurityManager;"), (31, .class_ 209), (0, u "java/lang/System$1"), (7, u "props"), (0, u "Ljava/util/Properties;"), (2, u "lineSeparator"), (0, u "Ljava/lang/String;"), (96, .class_ 321), (1, u "java/lang/System$LoggerFinder"), (5, .class_ 328), (0, u "java/lang/System$Logger"), (67, u "err"), (2, u "out"), (91, u "notSupportedJnuEncoding"), (15, u "in"), (17, u "initialIn"), (0, u "Ljava/io/InputStream;"), (35, u "bootLayer"), (0, u "Ljava/lang/ModuleLayer;"), (99, .class_ 664), (0, u "java/lang/System$2"), (9, u "NEVER"), (2, u "MAYBE"), (49, u "arraycopy"), (0, u "(Ljava/lang/Object;ILjava/lang/Object;II)V"), (72, .class_ 802), (0, u "java/lang/System$Logger$Level")] 31

def k28m0 : Method := { name := "<init>", desc := "()V", sig := { parameters := [], returnType := none }, accessFlags := 2, code := none }
def k28m1 : Method := { name := "arraycopy", desc := "(Ljava/lang/Object;ILjava/lang/Object;II)V", sig := { parameters := [(.object "java/lang/Object"), .int, (.object "java/lang/Object"), .int, .int], returnType := none }, accessFlags := 265, code := none }
/-- java/lang/System -/
def k28 : Class := { plain "java/lang/System" (some 0) with
  accessFlags := 49
  interfaces := #[]
  cf := some (fileOf pool28 8 #[.nestMembers #[319, 327, 801, 108, 663, 208]] #[{ accessFlags := 2, nameIndex := 5, descriptorIndex := 6, attributes := #[] }, { accessFlags := 265, nameIndex := 727, descriptorIndex := 728, attributes := #[] }] 49 2 #[] #[{ accessFlags := 25, nameIndex := 507, descriptorIndex := 526, attributes := #[] }, { accessFlags := 25, nameIndex := 399, descriptorIndex := 155, attributes := #[] }, { accessFlags := 25, nameIndex := 396, descriptorIndex := 155, attributes := #[] }, { accessFlags := 10, nameIndex := 525, descriptorIndex := 526, attributes := #[] }, { accessFlags := 26, nameIndex := 674, descriptorIndex := 12, attributes := #[] }, { accessFlags := 26, nameIndex := 677, descriptorIndex := 12, attributes := #[] }, { accessFlags := 10, nameIndex := 11, descriptorIndex := 12, attributes := #[] }, { accessFlags := 74, nameIndex := 175, descriptorIndex := 176, attributes := #[] }, { accessFlags := 10, nameIndex := 491, descriptorIndex := 222, attributes := #[] }, { accessFlags := 74, nameIndex := 29, descriptorIndex := 30, attributes := #[] }, { accessFlags := 74, nameIndex := 154, descriptorIndex := 155, attributes := #[] }, { accessFlags := 10, nameIndex := 217, descriptorIndex := 218, attributes := #[] }, { accessFlags := 10, nameIndex := 221, descriptorIndex := 222, attributes := #[] }, { accessFlags := 8, nameIndex := 562, descriptorIndex := 563, attributes := #[] }])
  fields := #[{ name := "in", type := (.object "java/io/InputStream"), accessFlags := 25, slot := 0, constantValue := 0 }, { name := "out", type := (.object "java/io/PrintStream"), accessFlags := 25, slot := 1, constantValue := 0 }, { name := "err", type := (.object "java/io/PrintStream"), accessFlags := 25, slot := 2, constantValue := 0 }, { name := "initialIn", type := (.object "java/io/InputStream"), accessFlags := 10, slot := 3, constantValue := 0 }, { name := "NEVER", type := .int, accessFlags := 26, slot := 4, constantValue := 0 }, { name := "MAYBE", type := .int, accessFlags := 26, slot := 5, constantValue := 0 }, { name := "allowSecurityManager", type := .int, accessFlags := 10, slot := 6, constantValue := 0 }, { name := "security", type := (.object "java/lang/SecurityManager"), accessFlags := 74, slot := 7, constantValue := 0 }, { name := "notSupportedJnuEncoding", type := (.object "java/lang/String"), accessFlags := 10, slot := 8, constantValue := 0 }, { name := "cons", type := (.object "java/io/Console"), accessFlags := 74, slot := 9, constantValue := 0 }, { name := "initialErrStream", type := (.object "java/io/PrintStream"), accessFlags := 74, slot := 10, constantValue := 0 }, { name := "props", type := (.object "java/util/Properties"), accessFlags := 10, slot := 11, constantValue := 0 }, { name := "lineSeparator", type := (.object "java/lang/String"), accessFlags := 10, slot := 12, constantValue := 0 }, { name := "bootLayer", type := (.object "java/lang/ModuleLayer"), accessFlags := 8, slot := 13, constantValue := 0 }]
  methods := #[k28m0, k28m1]
  instanceTypes := #[]
  staticTypes := #[(.object "java/io/InputStream"), (.object "java/io/PrintStream"), (.object "java/io/PrintStream"), (.object "java/io/InputStream"), .int, .int, .int, (.object "java/lang/SecurityManager"), (.object "java/lang/String"), (.object "java/io/Console"), (.object "java/io/PrintStream"), (.object "java/util/Properties"), (.object "java/lang/String"), (.object "java/lang/ModuleLayer")]
  resolved := Array.replicate 834 none
  statics := none }

def pool29 : Array CpInfo := pool [(2, .class_ 4), (1, u "java/lang/Object"), (0, u "<init>"), (0, u "()V"), (35, .class_ 44), (1, u "java/util/Objects"), (0, u "requireNonNull"), (0, u "(Ljava/lang/Object;)Ljava/lang/Object;")] 137

def k29m0 : Method := { name := "<init>", desc := "()V", sig := { parameters := [], returnType := none }, accessFlags := 2, code := none }
def k29c1 : Code := { maxStack := 2, maxLocals := 1, code := jdk_31_method_10_code, exceptionTable := #[], attributes := #[] }
def k29m1 : Method := { name := "requireNonNull", desc := "(Ljava/lang/Object;)Ljava/lang/Object;", sig := { parameters := [(.object "java/lang/Object")], returnType := some (.object "java/lang/Object") }, accessFlags := 9, code := some k29c1 }
/-- java/util/Objects -/
def k29 : Class := { plain "java/util/Objects" (some 0) with
  accessFlags := 49
  interfaces := #[]
  cf := some (fileOf pool29 42 #[] #[{ accessFlags := 2, nameIndex := 5, descriptorIndex := 6, attributes := #[] }, { accessFlags := 9, nameIndex := 45, descriptorIndex := 46, attributes := #[] }] 49 2 #[] #[])
  fields := #[]
  methods := #[k29m0, k29m1]
  instanceTypes := #[]
  staticTypes := #[]
  resolved := Array.replicate 184 none
  statics := none }

def pool30 : Array CpInfo := pool [(2, .class_ 4), (1, u "java/lang/Object"), (0, u "<init>"), (0, u "()V"), (17, .class_ 26), (1, u "jdk/internal/util/Preconditions"), (28, .class_ 56), (0, u "jdk/internal/util/Preconditions$4"), (57, .class_ 115), (0, u "jdk/internal/util/Preconditions$1"), (7, u "SIOOBE_FORMATTER"), (0, u "Ljava/util/function/BiFunction;"), (0, .class_ 126), (0, u "jdk/internal/util/Preconditions$2"), (3, u "AIOOBE_FORMATTER"), (0, .class_ 132), (0, u "jdk/internal/util/Preconditions$3"), (3, u "IOOBE_FORMATTER")] 57

def k30m0 : Method := { name := "<init>", desc := "()V", sig := { parameters := [], returnType := none }, accessFlags := 1, code := none }
/-- jdk/internal/util/Preconditions -/
def k30 : Class := { plain "jdk/internal/util/Preconditions" (some 0) with
  accessFlags := 33
  interfaces := #[]
  cf := some (fileOf pool30 24 #[.nestMembers #[55, 131, 125, 114]] #[{ accessFlags := 1, nameIndex := 5, descriptorIndex := 6, attributes := #[] }] 33 2 #[] #[{ accessFlags := 25, nameIndex := 123, descriptorIndex := 124, attributes := #[] }, { accessFlags := 25, nameIndex := 130, descriptorIndex := 124, attributes := #[] }, { accessFlags := 25, nameIndex := 136, descriptorIndex := 124, attributes := #[] }])
  fields := #[{ name := "SIOOBE_FORMATTER", type := (.object "java/util/function/BiFunction"), accessFlags := 25, slot := 0, constantValue := 0 }, { name := "AIOOBE_FORMATTER", type := (.object "java/util/function/BiFunction"), accessFlags := 25, slot := 1, constantValue := 0 }, { name := "IOOBE_FORMATTER", type := (.object "java/util/function/BiFunction"), accessFlags := 25, slot := 2, constantValue := 0 }]
  methods := #[k30m0]
  instanceTypes := #[]
  staticTypes := #[(.object "java/util/function/BiFunction"), (.object "java/util/function/BiFunction"), (.object "java/util/function/BiFunction")]
  resolved := Array.replicate 194 none
  statics := some 3 }

def pool31 : Array CpInfo := pool [(9, u "<init>"), (6, .class_ 18), (1, u "java/lang/Object"), (0, u "()V"), (1, .class_ 23), (1, u "jdk/internal/util/ArraysSupport"), (0, u "LOG2_ARRAY_LONG_INDEX_SCALE"), (0, u "I"), (2, u "U"), (0, u "Ljdk/internal/misc/Unsafe;"), (8, u "BIG_ENDIAN"), (0, u "Z"), (8, u "LOG2_BYTE_BIT_SIZE"), (4, u "LOG2_ARRAY_INT_INDEX_SCALE"), (54, u "JLA"), (0, u "Ljdk/internal/access/JavaLangAccess;"), (11, u "LOG2_ARRAY_BOOLEAN_INDEX_SCALE"), (9, u "LOG2_ARRAY_BYTE_INDEX_SCALE"), (5, u "LOG2_ARRAY_CHAR_INDEX_SCALE"), (5, u "LOG2_ARRAY_SHORT_INDEX_SCALE"), (18, u "LOG2_ARRAY_FLOAT_INDEX_SCALE"), (24, u "LOG2_ARRAY_DOUBLE_INDEX_SCALE"), (89, u "T_BOOLEAN"), (2, u "T_CHAR"), (1, u "T_FLOAT"), (1, u "T_DOUBLE"), (1, u "T_BYTE"), (1, u "T_SHORT"), (1, u "T_INT"), (1, u "T_LONG"), (1, u "SOFT_MAX_ARRAY_LENGTH")] 83

def k31m0 : Method := { name := "<init>", desc := "()V", sig := { parameters := [], returnType := none }, accessFlags := 2, code := none }
/-- jdk/internal/util/ArraysSupport -/
def k31 : Class := { plain "jdk/internal/util/ArraysSupport" (some 0) with
  accessFlags := 33
  interfaces := #[]
  cf := some (fileOf pool31 21 #[] #[{ accessFlags := 2, nameIndex := 9, descriptorIndex := 19, attributes := #[] }] 33 16 #[] #[{ accessFlags := 24, nameIndex := 28, descriptorIndex := 29, attributes := #[] }, { accessFlags := 26, nameIndex := 38, descriptorIndex := 39, attributes := #[] }, { accessFlags := 25, nameIndex := 121, descriptorIndex := 25, attributes := #[] }, { accessFlags := 25, nameIndex := 131, descriptorIndex := 25, attributes := #[] }, { accessFlags := 25, nameIndex := 137, descriptorIndex := 25, attributes := #[] }, { accessFlags := 25, nameIndex := 143, descriptorIndex := 25, attributes := #[] }, { accessFlags := 25, nameIndex := 53, descriptorIndex := 25, attributes := #[] }, { accessFlags := 25, nameIndex := 24, descriptorIndex := 25, attributes := #[] }, { accessFlags := 25, nameIndex := 162, descriptorIndex := 25, attributes := #[] }, { accessFlags := 25, nameIndex := 187, descriptorIndex := 25, attributes := #[] }, { accessFlags := 26, nameIndex := 48, descriptorIndex := 25, attributes := #[] }, { accessFlags := 25, nameIndex := 277, descriptorIndex := 25, attributes := #[] }, { accessFlags := 25, nameIndex := 280, descriptorIndex := 25, attributes := #[] }, { accessFlags := 25, nameIndex := 282, descriptorIndex := 25, attributes := #[] }, { accessFlags := 25, nameIndex := 284, descriptorIndex := 25, attributes := #[] }, { accessFlags := 25, nameIndex := 286, descriptorIndex := 25, attributes := #[] }, { accessFlags := 25, nameIndex := 288, descriptorIndex := 25, attributes := #[] }, { accessFlags := 25, nameIndex := 290, descriptorIndex := 25, attributes := #[] }, { accessFlags := 25, nameIndex := 292, descriptorIndex := 25, attributes := #[] }, { accessFlags := 26, nameIndex := 108, descriptorIndex := 109, attributes := #[] }, { accessFlags := 25, nameIndex := 294, descriptorIndex := 25, attributes := #[] }])
  fields := #[{ name := "U", type := (.object "jdk/internal/misc/Unsafe"), accessFlags := 24, slot := 0, constantValue := 0 }, { name := "BIG_ENDIAN", type := .boolean, accessFlags := 26, slot := 1, constantValue := 0 }, { name := "LOG2_ARRAY_BOOLEAN_INDEX_SCALE", type := .int, accessFlags := 25, slot := 2, constantValue := 0 }, { name := "LOG2_ARRAY_BYTE_INDEX_SCALE", type := .int, accessFlags := 25, slot := 3, constantValue := 0 }, { name := "LOG2_ARRAY_CHAR_INDEX_SCALE", type := .int, accessFlags := 25, slot := 4, constantValue := 0 }, { name := "LOG2_ARRAY_SHORT_INDEX_SCALE", type := .int, accessFlags := 25, slot := 5, constantValue := 0 }, { name := "LOG2_ARRAY_INT_INDEX_SCALE", type := .int, accessFlags := 25, slot := 6, constantValue := 0 }, { name := "LOG2_ARRAY_LONG_INDEX_SCALE", type := .int, accessFlags := 25, slot := 7, constantValue := 0 }, { name := "LOG2_ARRAY_FLOAT_INDEX_SCALE", type := .int, accessFlags := 25, slot := 8, constantValue := 0 }, { name := "LOG2_ARRAY_DOUBLE_INDEX_SCALE", type := .int, accessFlags := 25, slot := 9, constantValue := 0 }, { name := "LOG2_BYTE_BIT_SIZE", type := .int, accessFlags := 26, slot := 10, constantValue := 0 }, { name := "T_BOOLEAN", type := .int, accessFlags := 25, slot := 11, constantValue := 0 }, { name := "T_CHAR", type := .int, accessFlags := 25, slot := 12, constantValue := 0 }, { name := "T_FLOAT", type := .int, accessFlags := 25, slot := 13, constantValue := 0 }, { name := "T_DOUBLE", type := .int, accessFlags := 25, slot := 14, constantValue := 0 }, { name := "T_BYTE", type := .int, accessFlags := 25, slot := 15, constantValue := 0 }, { name := "T_SHORT", type := .int, accessFlags := 25, slot := 16, constantValue := 0 }, { name := "T_INT", type := .int, accessFlags := 25, slot := 17, constantValue := 0 }, { name := "T_LONG", type := .int, accessFlags := 25, slot := 18, constantValue := 0 }, { name := "JLA", type := (.object "jdk/internal/access/JavaLangAccess"), accessFlags := 26, slot := 19, constantValue := 0 }, { name := "SOFT_MAX_ARRAY_LENGTH", type := .int, accessFlags := 25, slot := 20, constantValue := 0 }]
  methods := #[k31m0]
  instanceTypes := #[]
  staticTypes := #[(.object "jdk/internal/misc/Unsafe"), .boolean, .int, .int, .int, .int, .int, .int, .int, .int, .int, .int, .int, .int, .int, .int, .int, .int, .int, (.object "jdk/internal/access/JavaLangAccess"), .int]
  resolved := Array.replicate 378 none
  statics := none }

/-- the primitive byte -/
def k32 : Class := { plain "byte" none with kind := .primitive 'B', accessFlags := 0x411 }
/-- [B -/
def k33 : Class := { plain "[B" (some 0) with kind := .array 32 .byte, interfaces := #[18, 4], accessFlags := 1041 }

/-- the primitive int -/
def k34 : Class := { plain "int" none with kind := .primitive 'I', accessFlags := 0x411 }
/-- [I -/
def k35 : Class := { plain "[I" (some 0) with kind := .array 34 .int, interfaces := #[18, 4], accessFlags := 1041 }

/-- [Ljava/lang/Object; -/
def k36 : Class := { plain "[Ljava/lang/Object;" (some 0) with kind := .array 0 (.object "java/lang/Object"), interfaces := #[18, 4], accessFlags := 1041, mirror := some 9 }

def heap : Heap := #[{ cls := 9, slots := #[.long 0, .int 1, .null, .int 0, .null, .int 0, .int 0], vm := .statics 9 },
  { cls := 19, slots := #[.long 0, .int 0, .ref 6, .ref 7], vm := .statics 19 },
  { cls := 22, slots := #[.long 0, .int 0, .null, .ref 8, .ref 5, .null, .null, .null, .int 0, .int 1], vm := .statics 22 },
  { cls := 30, slots := #[.null, .null, .null], vm := .statics 30 },
  { cls := 36, slots := #[], vm := .none },
  { cls := 26, slots := #[.ref 4, .int 0], vm := .none },
  { cls := 36, slots := #[], vm := .none },
  { cls := 36, slots := #[], vm := .none },
  { cls := 0, slots := #[], vm := .none },
  { cls := 0, slots := #[], vm := .mirror 36 }]
def classes : Array Class := #[k0, k1, k2, k3, k4, k5, k6, k7, k8, k9, k10, k11, k12, k13, k14, k15, k16, k17, k18, k19, k20, k21, k22, k23, k24, k25, k26, k27, k28, k29, k30, k31, k32, k33, k34, k35, k36]
def interned : List (Array UInt16 × Addr) := []
def slotsUsed : Nat := 26
def theMethod : MethodId := ⟨1, 1⟩
def args0 : Array Value := #[.int 2, .int 5, .int 65]
def aboutOver (below : List Frame) : State where
  vm := { classes := classes, interned := interned.toArray }
  heap := heap
  slotsUsed := slotsUsed
  threads := #[{ frames := .invoking theMethod args0 :: below }]
def below0 : List Frame := [.native { method := ⟨0, 0⟩, args := #[] }]
def about1 : State := aboutOver below0
def p0 : Program := .bare "" "" ""
def e0 : Env := launch0.env 0 0 0
theorem w_frames : about1.frames = Frame.invoking theMethod args0 :: below0 := rfl
set_option maxRecDepth 65536 in
theorem w_args : argsFit about1.vm theMethod args0 = true := by decide +kernel
set_option maxRecDepth 65536 in
theorem w_heap : heapFits about1 = true := by decide +kernel
set_option maxRecDepth 65536 in
theorem w_runnable : about1.curStatus? = some .runnable := by decide +kernel
set_option maxRecDepth 65536 in
theorem w_alone : about1.alone = true := by decide +kernel
set_option maxRecDepth 65536 in
theorem w_named : about1.methodNamed? x = some theMethod := by decide +kernel
set_option maxRecDepth 65536 in
theorem w_hears : about1.hears theMethod below0 = true := by decide +kernel
set_option maxRecDepth 65536 in
theorem w_ripe : about1.ripe theMethod args0 below0 = true := by decide +kernel
theorem w_running : about1.status = .running := rfl
set_option maxRecDepth 65536 in
theorem w_room : about1.hasRoom e0.platform room_1 = true :=
  launch0.hasRoom_least _ room_1 (by decide +kernel) (by decide +kernel) (by decide +kernel) (by decide +kernel) (by decide +kernel) (by decide +kernel)
theorem allAtoms_all (ts : List Jvm.Cond) (a : Array Jvm.Value) (st : Jvm.State) : (allAtoms ts).before a st = ts.all (fun c => c.before a st) := by
  induction ts with
  | nil => rfl
  | cons c t ih =>
    show (Jvm.Cond.and c (allAtoms t)).before a st = _
    rw [Jvm.Cond.before_and, ih, List.all_cons]
def words1 : List Jvm.Cond := Jvm.Cond.code x code maxLocals ret :: tables_1
/-- a 'code' word, met by the world's own term for the bytes: nothing is compared byte by byte -/
theorem code_word {y : MethodName} {bytes : ByteArray} {mx : Nat} {rt : Option FieldType} {a : Array Value} {s : State} {m : MethodId} {meth : Method} {c : Code} (h1 : s.methodNamed? y = some m) (h2 : s.vm.method? m = some meth) (h3 : meth.code = some c) (h4 : c.code = bytes)
    (h5 : (c.maxLocals == mx && c.exceptionTable.isEmpty && decide (c.maxStack ≤ mostOperands) && decide (meth.sig.returnType = rt) && !meth.locks && decide (parseMethodDescriptor y.desc = some meth.sig)) = true) : (Jvm.Cond.code y bytes mx rt).before a s = true := by
  simp only [Bool.and_eq_true, beq_iff_eq, Bool.not_eq_true', decide_eq_true_eq] at h5
  obtain ⟨⟨⟨⟨⟨g1, g2⟩, g3⟩, g4⟩, g5⟩, g6⟩ := h5
  simp [Cond.before, Cond.holds, Cond.value, h1, h2, h3, h4, g1, g2, g3, g4, g5, g6]
def isCode : Jvm.Cond → Bool
  | .code _ _ _ _ => true
  | _ => false
theorem all_split {L : List Jvm.Cond} {P : Jvm.Cond → Bool} (h1 : L.all (fun c => isCode c || P c) = true) (h2 : ∀ c ∈ L.filter isCode, P c = true) : L.all P = true := by
  refine List.all_eq_true.mpr fun c hc => ?_
  have h := List.all_eq_true.mp h1 c hc
  rcases Bool.eq_false_or_eq_true (isCode c) with hi | hi
  · exact h2 c (List.mem_filter.mpr ⟨hc, hi⟩)
  · simpa [hi] using h
set_option maxRecDepth 65536 in
theorem w_c0 : (Jvm.Cond.code x code maxLocals ret).before args0 about1 = true := code_word (m := ⟨1, 1⟩) (meth := k1m1) (c := k1c1) (by decide +kernel) rfl rfl rfl (by decide +kernel)
set_option maxRecDepth 65536 in
theorem w_c1 : (Jvm.Cond.code ({ cls := "java/lang/String", name := "valueOf", desc := "(C)Ljava/lang/String;" } : Jvm.MethodName) jdk_42_method_139_code (1 : Nat) (Option.some (Jvm.ClassFile.FieldType.object "java/lang/String"))).before args0 about1 = true := code_word (m := ⟨9, 1⟩) (meth := k9m1) (c := k9c1) (by decide +kernel) rfl rfl rfl (by decide +kernel)
set_option maxRecDepth 65536 in
theorem w_c2 : (Jvm.Cond.code ({ cls := "java/lang/StringLatin1", name := "canEncode", desc := "(C)Z" } : Jvm.MethodName) jdk_43_method_3_code (1 : Nat) (Option.some Jvm.ClassFile.FieldType.boolean)).before args0 about1 = true := code_word (m := ⟨10, 1⟩) (meth := k10m1) (c := k10c1) (by decide +kernel) rfl rfl rfl (by decide +kernel)
set_option maxRecDepth 65536 in
theorem w_c3 : (Jvm.Cond.code ({ cls := "java/lang/StringLatin1", name := "toBytes", desc := "(C)[B" } : Jvm.MethodName) jdk_43_method_46_code (1 : Nat) (Option.some (Jvm.ClassFile.FieldType.array Jvm.ClassFile.FieldType.byte))).before args0 about1 = true := code_word (m := ⟨10, 2⟩) (meth := k10m2) (c := k10c2) (by decide +kernel) rfl rfl rfl (by decide +kernel)
set_option maxRecDepth 65536 in
theorem w_c4 : (Jvm.Cond.code ({ cls := "java/lang/String", name := "<init>", desc := "([BB)V" } : Jvm.MethodName) jdk_42_method_151_code (3 : Nat) (Option.none : Option Jvm.ClassFile.FieldType)).before args0 about1 = true := code_word (m := ⟨9, 2⟩) (meth := k9m2) (c := k9c2) (by decide +kernel) rfl rfl rfl (by decide +kernel)
set_option maxRecDepth 65536 in
theorem w_c5 : (Jvm.Cond.code ({ cls := "java/lang/Object", name := "<init>", desc := "()V" } : Jvm.MethodName) object_method_1_code (1 : Nat) (Option.none : Option Jvm.ClassFile.FieldType)).before args0 about1 = true := code_word (m := ⟨0, 0⟩) (meth := k0m0) (c := k0c0) (by decide +kernel) rfl rfl rfl (by decide +kernel)
set_option maxRecDepth 65536 in
theorem w_c6 : (Jvm.Cond.code ({ cls := "com/example/plumbline/plumbline/Grade", name := "<init>", desc := "(Ljava/lang/String;Ljava/lang/String;)V" } : Jvm.MethodName) prog_31_method_1_code (3 : Nat) (Option.none : Option Jvm.ClassFile.FieldType)).before args0 about1 = true := code_word (m := ⟨3, 0⟩) (meth := k3m0) (c := k3c0) (by decide +kernel) rfl rfl rfl (by decide +kernel)
set_option maxRecDepth 65536 in
theorem w_c7 : (Jvm.Cond.code ({ cls := "com/example/plumbline/plumbline/Band", name := "<init>", desc := "(Lcom/example/plumbline/plumbline/Points;ZLcom/example/plumbline/plumbline/Points;ZLjava/lang/Object;)V" } : Jvm.MethodName) prog_6_method_1_code (6 : Nat) (Option.none : Option Jvm.ClassFile.FieldType)).before args0 about1 = true := code_word (m := ⟨2, 0⟩) (meth := k2m0) (c := k2c0) (by decide +kernel) rfl rfl rfl (by decide +kernel)
set_option maxRecDepth 65536 in
theorem w_c8 : (Jvm.Cond.code ({ cls := "java/util/ArrayList", name := "<init>", desc := "()V" } : Jvm.MethodName) jdk_38_method_2_code (1 : Nat) (Option.none : Option Jvm.ClassFile.FieldType)).before args0 about1 = true := code_word (m := ⟨19, 0⟩) (meth := k19m0) (c := k19c0) (by decide +kernel) rfl rfl rfl (by decide +kernel)
set_option maxRecDepth 65536 in
theorem w_c9 : (Jvm.Cond.code ({ cls := "java/util/AbstractList", name := "<init>", desc := "()V" } : Jvm.MethodName) jdk_39_method_1_code (1 : Nat) (Option.none : Option Jvm.ClassFile.FieldType)).before args0 about1 = true := code_word (m := ⟨16, 0⟩) (meth := k16m0) (c := k16c0) (by decide +kernel) rfl rfl rfl (by decide +kernel)
set_option maxRecDepth 65536 in
theorem w_c10 : (Jvm.Cond.code ({ cls := "java/util/AbstractCollection", name := "<init>", desc := "()V" } : Jvm.MethodName) jdk_22_method_1_code (1 : Nat) (Option.none : Option Jvm.ClassFile.FieldType)).before args0 about1 = true := code_word (m := ⟨13, 0⟩) (meth := k13m0) (c := k13c0) (by decide +kernel) rfl rfl rfl (by decide +kernel)
set_option maxRecDepth 65536 in
theorem w_c11 : (Jvm.Cond.code ({ cls := "java/util/ArrayList", name := "add", desc := "(Ljava/lang/Object;)Z" } : Jvm.MethodName) jdk_38_method_25_code (2 : Nat) (Option.some Jvm.ClassFile.FieldType.boolean)).before args0 about1 = true := code_word (m := ⟨19, 6⟩) (meth := k19m6) (c := k19c6) (by decide +kernel) rfl rfl rfl (by decide +kernel)
set_option maxRecDepth 65536 in
theorem w_c12 : (Jvm.Cond.code ({ cls := "java/util/ArrayList", name := "add", desc := "(Ljava/lang/Object;[Ljava/lang/Object;I)V" } : Jvm.MethodName) jdk_38_method_24_code (4 : Nat) (Option.none : Option Jvm.ClassFile.FieldType)).before args0 about1 = true := code_word (m := ⟨19, 5⟩) (meth := k19m5) (c := k19c5) (by decide +kernel) rfl rfl rfl (by decide +kernel)
set_option maxRecDepth 65536 in
theorem w_c13 : (Jvm.Cond.code ({ cls := "java/util/ArrayList", name := "grow", desc := "()[Ljava/lang/Object;" } : Jvm.MethodName) jdk_38_method_7_code (1 : Nat) (Option.some (Jvm.ClassFile.FieldType.array (Jvm.ClassFile.FieldType.object "java/lang/Object")))).before args0 about1 = true := code_word (m := ⟨19, 2⟩) (meth := k19m2) (c := k19c2) (by decide +kernel) rfl rfl rfl (by decide +kernel)
set_option maxRecDepth 65536 in
theorem w_c14 : (Jvm.Cond.code ({ cls := "java/util/ArrayList", name := "grow", desc := "(I)[Ljava/lang/Object;" } : Jvm.MethodName) jdk_38_method_6_code (4 : Nat) (Option.some (Jvm.ClassFile.FieldType.array (Jvm.ClassFile.FieldType.object "java/lang/Object")))).before args0 about1 = true := code_word (m := ⟨19, 1⟩) (meth := k19m1) (c := k19c1) (by decide +kernel) rfl rfl rfl (by decide +kernel)
set_option maxRecDepth 65536 in
theorem w_c15 : (Jvm.Cond.code ({ cls := "java/lang/Math", name := "max", desc := "(II)I" } : Jvm.MethodName) jdk_29_method_65_code (2 : Nat) (Option.some Jvm.ClassFile.FieldType.int)).before args0 about1 = true := code_word (m := ⟨20, 1⟩) (meth := k20m1) (c := k20c1) (by decide +kernel) rfl rfl rfl (by decide +kernel)
set_option maxRecDepth 65536 in
theorem w_c16 : (Jvm.Cond.code ({ cls := "com/example/plumbline/plumbline/Grades", name := "<init>", desc := "(Ljava/util/List;Ljava/util/List;)V" } : Jvm.MethodName) prog_32_method_1_code (3 : Nat) (Option.none : Option Jvm.ClassFile.FieldType)).before args0 about1 = true := code_word (m := ⟨21, 0⟩) (meth := k21m0) (c := k21c0) (by decide +kernel) rfl rfl rfl (by decide +kernel)
set_option maxRecDepth 65536 in
theorem w_c17 : (Jvm.Cond.code ({ cls := "java/util/List", name := "copyOf", desc := "(Ljava/util/Collection;)Ljava/util/List;" } : Jvm.MethodName) jdk_40_method_48_code (1 : Nat) (Option.some (Jvm.ClassFile.FieldType.object "java/util/List"))).before args0 about1 = true := code_word (m := ⟨15, 4⟩) (meth := k15m4) (c := k15c4) (by decide +kernel) rfl rfl rfl (by decide +kernel)
set_option maxRecDepth 65536 in
theorem w_c18 : (Jvm.Cond.code ({ cls := "java/util/ImmutableCollections", name := "listCopy", desc := "(Ljava/util/Collection;)Ljava/util/List;" } : Jvm.MethodName) jdk_56_method_3_code (2 : Nat) (Option.some (Jvm.ClassFile.FieldType.object "java/util/List"))).before args0 about1 = true := code_word (m := ⟨22, 1⟩) (meth := k22m1) (c := k22c1) (by decide +kernel) rfl rfl rfl (by decide +kernel)
set_option maxRecDepth 65536 in
theorem w_c19 : (Jvm.Cond.code ({ cls := "java/util/ArrayList", name := "isEmpty", desc := "()Z" } : Jvm.MethodName) jdk_38_method_9_code (1 : Nat) (Option.some Jvm.ClassFile.FieldType.boolean)).before args0 about1 = true := code_word (m := ⟨19, 3⟩) (meth := k19m3) (c := k19c3) (by decide +kernel) rfl rfl rfl (by decide +kernel)
set_option maxRecDepth 65536 in
theorem w_c20 : (Jvm.Cond.code ({ cls := "java/util/List", name := "of", desc := "()Ljava/util/List;" } : Jvm.MethodName) jdk_40_method_36_code (0 : Nat) (Option.some (Jvm.ClassFile.FieldType.object "java/util/List"))).before args0 about1 = true := code_word (m := ⟨15, 2⟩) (meth := k15m2) (c := k15c2) (by decide +kernel) rfl rfl rfl (by decide +kernel)
set_option maxRecDepth 65536 in
theorem w_c21 : (Jvm.Cond.code ({ cls := "java/util/ArrayList", name := "toArray", desc := "()[Ljava/lang/Object;" } : Jvm.MethodName) jdk_38_method_16_code (1 : Nat) (Option.some (Jvm.ClassFile.FieldType.array (Jvm.ClassFile.FieldType.object "java/lang/Object")))).before args0 about1 = true := code_word (m := ⟨19, 4⟩) (meth := k19m4) (c := k19c4) (by decide +kernel) rfl rfl rfl (by decide +kernel)
set_option maxRecDepth 65536 in
theorem w_c22 : (Jvm.Cond.code ({ cls := "java/util/Arrays", name := "copyOf", desc := "([Ljava/lang/Object;I)[Ljava/lang/Object;" } : Jvm.MethodName) jdk_65_method_119_code (2 : Nat) (Option.some (Jvm.ClassFile.FieldType.array (Jvm.ClassFile.FieldType.object "java/lang/Object")))).before args0 about1 = true := code_word (m := ⟨27, 1⟩) (meth := k27m1) (c := k27c1) (by decide +kernel) rfl rfl rfl (by decide +kernel)
set_option maxRecDepth 65536 in
theorem w_c23 : (Jvm.Cond.code ({ cls := "java/util/Arrays", name := "copyOf", desc := "([Ljava/lang/Object;ILjava/lang/Class;)[Ljava/lang/Object;" } : Jvm.MethodName) jdk_65_method_120_code (4 : Nat) (Option.some (Jvm.ClassFile.FieldType.array (Jvm.ClassFile.FieldType.object "java/lang/Object")))).before args0 about1 = true := code_word (m := ⟨27, 2⟩) (meth := k27m2) (c := k27c2) (by decide +kernel) rfl rfl rfl (by decide +kernel)
set_option maxRecDepth 65536 in
theorem w_c24 : (Jvm.Cond.code ({ cls := "java/lang/Math", name := "min", desc := "(II)I" } : Jvm.MethodName) jdk_29_method_69_code (2 : Nat) (Option.some Jvm.ClassFile.FieldType.int)).before args0 about1 = true := code_word (m := ⟨20, 2⟩) (meth := k20m2) (c := k20c2) (by decide +kernel) rfl rfl rfl (by decide +kernel)
set_option maxRecDepth 65536 in
theorem w_c25 : (Jvm.Cond.code ({ cls := "java/util/List", name := "of", desc := "([Ljava/lang/Object;)Ljava/util/List;" } : Jvm.MethodName) jdk_40_method_47_code (2 : Nat) (Option.some (Jvm.ClassFile.FieldType.object "java/util/List"))).before args0 about1 = true := code_word (m := ⟨15, 3⟩) (meth := k15m3) (c := k15c3) (by decide +kernel) rfl rfl rfl (by decide +kernel)
set_option maxRecDepth 65536 in
theorem w_c26 : (Jvm.Cond.code ({ cls := "java/util/ImmutableCollections", name := "listFromArray", desc := "([Ljava/lang/Object;)Ljava/util/List;" } : Jvm.MethodName) jdk_56_method_4_code (3 : Nat) (Option.some (Jvm.ClassFile.FieldType.object "java/util/List"))).before args0 about1 = true := code_word (m := ⟨22, 2⟩) (meth := k22m2) (c := k22c2) (by decide +kernel) rfl rfl rfl (by decide +kernel)
set_option maxRecDepth 65536 in
theorem w_c27 : (Jvm.Cond.code ({ cls := "java/util/Objects", name := "requireNonNull", desc := "(Ljava/lang/Object;)Ljava/lang/Object;" } : Jvm.MethodName) jdk_31_method_10_code (1 : Nat) (Option.some (Jvm.ClassFile.FieldType.object "java/lang/Object"))).before args0 about1 = true := code_word (m := ⟨29, 1⟩) (meth := k29m1) (c := k29c1) (by decide +kernel) rfl rfl rfl (by decide +kernel)
set_option maxRecDepth 65536 in
theorem w_c28 : (Jvm.Cond.code ({ cls := "java/util/ImmutableCollections$ListN", name := "<init>", desc := "([Ljava/lang/Object;Z)V" } : Jvm.MethodName) jdk_45_method_1_code (3 : Nat) (Option.none : Option Jvm.ClassFile.FieldType)).before args0 about1 = true := code_word (m := ⟨26, 0⟩) (meth := k26m0) (c := k26c0) (by decide +kernel) rfl rfl rfl (by decide +kernel)
set_option maxRecDepth 65536 in
theorem w_c29 : (Jvm.Cond.code ({ cls := "java/util/ImmutableCollections$AbstractImmutableList", name := "<init>", desc := "()V" } : Jvm.MethodName) jdk_46_method_1_code (1 : Nat) (Option.none : Option Jvm.ClassFile.FieldType)).before args0 about1 = true := code_word (m := ⟨24, 0⟩) (meth := k24m0) (c := k24c0) (by decide +kernel) rfl rfl rfl (by decide +kernel)
set_option maxRecDepth 65536 in
theorem w_c30 : (Jvm.Cond.code ({ cls := "java/util/ImmutableCollections$AbstractImmutableCollection", name := "<init>", desc := "()V" } : Jvm.MethodName) jdk_47_method_1_code (1 : Nat) (Option.none : Option Jvm.ClassFile.FieldType)).before args0 about1 = true := code_word (m := ⟨23, 0⟩) (meth := k23m0) (c := k23c0) (by decide +kernel) rfl rfl rfl (by decide +kernel)
set_option maxRecDepth 65536 in
theorem w_c31 : (Jvm.Cond.code ({ cls := "com/example/plumbline/plumbline/Grades", name := "gradesAreas", desc := "()Z" } : Jvm.MethodName) prog_32_method_2_code (1 : Nat) (Option.some Jvm.ClassFile.FieldType.boolean)).before args0 about1 = true := code_word (m := ⟨21, 1⟩) (meth := k21m1) (c := k21c1) (by decide +kernel) rfl rfl rfl (by decide +kernel)
set_option maxRecDepth 65536 in
theorem w_c32 : (Jvm.Cond.code ({ cls := "java/util/ImmutableCollections$ListN", name := "isEmpty", desc := "()Z" } : Jvm.MethodName) jdk_45_method_2_code (1 : Nat) (Option.some Jvm.ClassFile.FieldType.boolean)).before args0 about1 = true := code_word (m := ⟨26, 1⟩) (meth := k26m1) (c := k26c1) (by decide +kernel) rfl rfl rfl (by decide +kernel)
set_option maxRecDepth 65536 in
theorem w_c33 : (Jvm.Cond.code ({ cls := "java/util/ImmutableCollections$List12", name := "<init>", desc := "(Ljava/lang/Object;)V" } : Jvm.MethodName) jdk_44_method_1_code (2 : Nat) (Option.none : Option Jvm.ClassFile.FieldType)).before args0 about1 = true := code_word (m := ⟨25, 0⟩) (meth := k25m0) (c := k25c0) (by decide +kernel) rfl rfl rfl (by decide +kernel)
set_option maxRecDepth 65536 in
theorem w_c34 : (Jvm.Cond.code ({ cls := "java/util/ImmutableCollections$List12", name := "isEmpty", desc := "()Z" } : Jvm.MethodName) jdk_44_method_4_code (1 : Nat) (Option.some Jvm.ClassFile.FieldType.boolean)).before args0 about1 = true := code_word (m := ⟨25, 2⟩) (meth := k25m2) (c := k25c2) (by decide +kernel) rfl rfl rfl (by decide +kernel)
set_option maxRecDepth 65536 in
theorem w_c35 : (Jvm.Cond.code ({ cls := "java/util/ImmutableCollections$List12", name := "<init>", desc := "(Ljava/lang/Object;Ljava/lang/Object;)V" } : Jvm.MethodName) jdk_44_method_2_code (3 : Nat) (Option.none : Option Jvm.ClassFile.FieldType)).before args0 about1 = true := code_word (m := ⟨25, 1⟩) (meth := k25m1) (c := k25c1) (by decide +kernel) rfl rfl rfl (by decide +kernel)
def codes1 : List Jvm.Cond := [Jvm.Cond.code x code maxLocals ret, Jvm.Cond.code ({ cls := "java/lang/String", name := "valueOf", desc := "(C)Ljava/lang/String;" } : Jvm.MethodName) jdk_42_method_139_code (1 : Nat) (Option.some (Jvm.ClassFile.FieldType.object "java/lang/String")), Jvm.Cond.code ({ cls := "java/lang/StringLatin1", name := "canEncode", desc := "(C)Z" } : Jvm.MethodName) jdk_43_method_3_code (1 : Nat) (Option.some Jvm.ClassFile.FieldType.boolean), Jvm.Cond.code ({ cls := "java/lang/StringLatin1", name := "toBytes", desc := "(C)[B" } : Jvm.MethodName) jdk_43_method_46_code (1 : Nat) (Option.some (Jvm.ClassFile.FieldType.array Jvm.ClassFile.FieldType.byte)), Jvm.Cond.code ({ cls := "java/lang/String", name := "<init>", desc := "([BB)V" } : Jvm.MethodName) jdk_42_method_151_code (3 : Nat) (Option.none : Option Jvm.ClassFile.FieldType), Jvm.Cond.code ({ cls := "java/lang/Object", name := "<init>", desc := "()V" } : Jvm.MethodName) object_method_1_code (1 : Nat) (Option.none : Option Jvm.ClassFile.FieldType), Jvm.Cond.code ({ cls := "com/example/plumbline/plumbline/Grade", name := "<init>", desc := "(Ljava/lang/String;Ljava/lang/String;)V" } : Jvm.MethodName) prog_31_method_1_code (3 : Nat) (Option.none : Option Jvm.ClassFile.FieldType), Jvm.Cond.code ({ cls := "com/example/plumbline/plumbline/Band", name := "<init>", desc := "(Lcom/example/plumbline/plumbline/Points;ZLcom/example/plumbline/plumbline/Points;ZLjava/lang/Object;)V" } : Jvm.MethodName) prog_6_method_1_code (6 : Nat) (Option.none : Option Jvm.ClassFile.FieldType), Jvm.Cond.code ({ cls := "java/util/ArrayList", name := "<init>", desc := "()V" } : Jvm.MethodName) jdk_38_method_2_code (1 : Nat) (Option.none : Option Jvm.ClassFile.FieldType), Jvm.Cond.code ({ cls := "java/util/AbstractList", name := "<init>", desc := "()V" } : Jvm.MethodName) jdk_39_method_1_code (1 : Nat) (Option.none : Option Jvm.ClassFile.FieldType), Jvm.Cond.code ({ cls := "java/util/AbstractCollection", name := "<init>", desc := "()V" } : Jvm.MethodName) jdk_22_method_1_code (1 : Nat) (Option.none : Option Jvm.ClassFile.FieldType), Jvm.Cond.code ({ cls := "java/util/ArrayList", name := "add", desc := "(Ljava/lang/Object;)Z" } : Jvm.MethodName) jdk_38_method_25_code (2 : Nat) (Option.some Jvm.ClassFile.FieldType.boolean), Jvm.Cond.code ({ cls := "java/util/ArrayList", name := "add", desc := "(Ljava/lang/Object;[Ljava/lang/Object;I)V" } : Jvm.MethodName) jdk_38_method_24_code (4 : Nat) (Option.none : Option Jvm.ClassFile.FieldType), Jvm.Cond.code ({ cls := "java/util/ArrayList", name := "grow", desc := "()[Ljava/lang/Object;" } : Jvm.MethodName) jdk_38_method_7_code (1 : Nat) (Option.some (Jvm.ClassFile.FieldType.array (Jvm.ClassFile.FieldType.object "java/lang/Object"))), Jvm.Cond.code ({ cls := "java/util/ArrayList", name := "grow", desc := "(I)[Ljava/lang/Object;" } : Jvm.MethodName) jdk_38_method_6_code (4 : Nat) (Option.some (Jvm.ClassFile.FieldType.array (Jvm.ClassFile.FieldType.object "java/lang/Object"))), Jvm.Cond.code ({ cls := "java/lang/Math", name := "max", desc := "(II)I" } : Jvm.MethodName) jdk_29_method_65_code (2 : Nat) (Option.some Jvm.ClassFile.FieldType.int), Jvm.Cond.code ({ cls := "com/example/plumbline/plumbline/Grades", name := "<init>", desc := "(Ljava/util/List;Ljava/util/List;)V" } : Jvm.MethodName) prog_32_method_1_code (3 : Nat) (Option.none : Option Jvm.ClassFile.FieldType), Jvm.Cond.code ({ cls := "java/util/List", name := "copyOf", desc := "(Ljava/util/Collection;)Ljava/util/List;" } : Jvm.MethodName) jdk_40_method_48_code (1 : Nat) (Option.some (Jvm.ClassFile.FieldType.object "java/util/List")), Jvm.Cond.code ({ cls := "java/util/ImmutableCollections", name := "listCopy", desc := "(Ljava/util/Collection;)Ljava/util/List;" } : Jvm.MethodName) jdk_56_method_3_code (2 : Nat) (Option.some (Jvm.ClassFile.FieldType.object "java/util/List")), Jvm.Cond.code ({ cls := "java/util/ArrayList", name := "isEmpty", desc := "()Z" } : Jvm.MethodName) jdk_38_method_9_code (1 : Nat) (Option.some Jvm.ClassFile.FieldType.boolean), Jvm.Cond.code ({ cls := "java/util/List", name := "of", desc := "()Ljava/util/List;" } : Jvm.MethodName) jdk_40_method_36_code (0 : Nat) (Option.some (Jvm.ClassFile.FieldType.object "java/util/List")), Jvm.Cond.code ({ cls := "java/util/ArrayList", name := "toArray", desc := "()[Ljava/lang/Object;" } : Jvm.MethodName) jdk_38_method_16_code (1 : Nat) (Option.some (Jvm.ClassFile.FieldType.array (Jvm.ClassFile.FieldType.object "java/lang/Object"))), Jvm.Cond.code ({ cls := "java/util/Arrays", name := "copyOf", desc := "([Ljava/lang/Object;I)[Ljava/lang/Object;" } : Jvm.MethodName) jdk_65_method_119_code (2 : Nat) (Option.some (Jvm.ClassFile.FieldType.array (Jvm.ClassFile.FieldType.object "java/lang/Object"))), Jvm.Cond.code ({ cls := "java/util/Arrays", name := "copyOf", desc := "([Ljava/lang/Object;ILjava/lang/Class;)[Ljava/lang/Object;" } : Jvm.MethodName) jdk_65_method_120_code (4 : Nat) (Option.some (Jvm.ClassFile.FieldType.array (Jvm.ClassFile.FieldType.object "java/lang/Object"))), Jvm.Cond.code ({ cls := "java/lang/Math", name := "min", desc := "(II)I" } : Jvm.MethodName) jdk_29_method_69_code (2 : Nat) (Option.some Jvm.ClassFile.FieldType.int), Jvm.Cond.code ({ cls := "java/util/List", name := "of", desc := "([Ljava/lang/Object;)Ljava/util/List;" } : Jvm.MethodName) jdk_40_method_47_code (2 : Nat) (Option.some (Jvm.ClassFile.FieldType.object "java/util/List")), Jvm.Cond.code ({ cls := "java/util/ImmutableCollections", name := "listFromArray", desc := "([Ljava/lang/Object;)Ljava/util/List;" } : Jvm.MethodName) jdk_56_method_4_code (3 : Nat) (Option.some (Jvm.ClassFile.FieldType.object "java/util/List")), Jvm.Cond.code ({ cls := "java/util/Objects", name := "requireNonNull", desc := "(Ljava/lang/Object;)Ljava/lang/Object;" } : Jvm.MethodName) jdk_31_method_10_code (1 : Nat) (Option.some (Jvm.ClassFile.FieldType.object "java/lang/Object")), Jvm.Cond.code ({ cls := "java/util/ImmutableCollections$ListN", name := "<init>", desc := "([Ljava/lang/Object;Z)V" } : Jvm.MethodName) jdk_45_method_1_code (3 : Nat) (Option.none : Option Jvm.ClassFile.FieldType), Jvm.Cond.code ({ cls := "java/util/ImmutableCollections$AbstractImmutableList", name := "<init>", desc := "()V" } : Jvm.MethodName) jdk_46_method_1_code (1 : Nat) (Option.none : Option Jvm.ClassFile.FieldType), Jvm.Cond.code ({ cls := "java/util/ImmutableCollections$AbstractImmutableCollection", name := "<init>", desc := "()V" } : Jvm.MethodName) jdk_47_method_1_code (1 : Nat) (Option.none : Option Jvm.ClassFile.FieldType), Jvm.Cond.code ({ cls := "com/example/plumbline/plumbline/Grades", name := "gradesAreas", desc := "()Z" } : Jvm.MethodName) prog_32_method_2_code (1 : Nat) (Option.some Jvm.ClassFile.FieldType.boolean), Jvm.Cond.code ({ cls := "java/util/ImmutableCollections$ListN", name := "isEmpty", desc := "()Z" } : Jvm.MethodName) jdk_45_method_2_code (1 : Nat) (Option.some Jvm.ClassFile.FieldType.boolean), Jvm.Cond.code ({ cls := "java/util/ImmutableCollections$List12", name := "<init>", desc := "(Ljava/lang/Object;)V" } : Jvm.MethodName) jdk_44_method_1_code (2 : Nat) (Option.none : Option Jvm.ClassFile.FieldType), Jvm.Cond.code ({ cls := "java/util/ImmutableCollections$List12", name := "isEmpty", desc := "()Z" } : Jvm.MethodName) jdk_44_method_4_code (1 : Nat) (Option.some Jvm.ClassFile.FieldType.boolean), Jvm.Cond.code ({ cls := "java/util/ImmutableCollections$List12", name := "<init>", desc := "(Ljava/lang/Object;Ljava/lang/Object;)V" } : Jvm.MethodName) jdk_44_method_2_code (3 : Nat) (Option.none : Option Jvm.ClassFile.FieldType)]
set_option maxRecDepth 65536 in
theorem codes_eq : words1.filter isCode = codes1 := rfl
theorem w_codes : ∀ c ∈ words1.filter isCode, c.before args0 about1 = true := by
  rw [codes_eq]
  intro c hc
  simp only [codes1, List.mem_cons, List.not_mem_nil, or_false] at hc
  rcases hc with rfl | rfl | rfl | rfl | rfl | rfl | rfl | rfl | rfl | rfl | rfl | rfl | rfl | rfl | rfl | rfl | rfl | rfl | rfl | rfl | rfl | rfl | rfl | rfl | rfl | rfl | rfl | rfl | rfl | rfl | rfl | rfl | rfl | rfl | rfl | rfl
  · exact w_c0
  · exact w_c1
  · exact w_c2
  · exact w_c3
  · exact w_c4
  · exact w_c5
  · exact w_c6
  · exact w_c7
  · exact w_c8
  · exact w_c9
  · exact w_c10
  · exact w_c11
  · exact w_c12
  · exact w_c13
  · exact w_c14
  · exact w_c15
  · exact w_c16
  · exact w_c17
  · exact w_c18
  · exact w_c19
  · exact w_c20
  · exact w_c21
  · exact w_c22
  · exact w_c23
  · exact w_c24
  · exact w_c25
  · exact w_c26
  · exact w_c27
  · exact w_c28
  · exact w_c29
  · exact w_c30
  · exact w_c31
  · exact w_c32
  · exact w_c33
  · exact w_c34
  · exact w_c35
set_option maxRecDepth 65536 in
theorem w_t1 : (words1.take 24).all (fun c => isCode c || c.before args0 about1) = true := by decide +kernel
set_option maxRecDepth 65536 in
theorem w_t2 : ((words1.drop 24).take 24).all (fun c => isCode c || c.before args0 about1) = true := by decide +kernel
set_option maxRecDepth 65536 in
theorem w_t3 : (((words1.drop 24).drop 24).take 24).all (fun c => isCode c || c.before args0 about1) = true := by decide +kernel
set_option maxRecDepth 65536 in
theorem w_t4 : ((((words1.drop 24).drop 24).drop 24).take 24).all (fun c => isCode c || c.before args0 about1) = true := by decide +kernel
set_option maxRecDepth 65536 in
theorem w_t5 : (((((words1.drop 24).drop 24).drop 24).drop 24).take 24).all (fun c => isCode c || c.before args0 about1) = true := by decide +kernel
set_option maxRecDepth 65536 in
theorem w_t6 : ((((((words1.drop 24).drop 24).drop 24).drop 24).drop 24).take 24).all (fun c => isCode c || c.before args0 about1) = true := by decide +kernel
set_option maxRecDepth 65536 in
theorem w_t7 : (((((((words1.drop 24).drop 24).drop 24).drop 24).drop 24).drop 24).take 24).all (fun c => isCode c || c.before args0 about1) = true := by decide +kernel
set_option maxRecDepth 65536 in
theorem w_t8 : ((((((((words1.drop 24).drop 24).drop 24).drop 24).drop 24).drop 24).drop 24).take 24).all (fun c => isCode c || c.before args0 about1) = true := by decide +kernel
set_option maxRecDepth 65536 in
theorem w_t9 : (((((((((words1.drop 24).drop 24).drop 24).drop 24).drop 24).drop 24).drop 24).drop 24).take 24).all (fun c => isCode c || c.before args0 about1) = true := by decide +kernel
set_option maxRecDepth 65536 in
theorem w_t10 : ((((((((((words1.drop 24).drop 24).drop 24).drop 24).drop 24).drop 24).drop 24).drop 24).drop 24).take 24).all (fun c => isCode c || c.before args0 about1) = true := by decide +kernel
set_option maxRecDepth 65536 in
theorem w_t11 : ((((((((((words1.drop 24).drop 24).drop 24).drop 24).drop 24).drop 24).drop 24).drop 24).drop 24).drop 24).all (fun c => isCode c || c.before args0 about1) = true := by decide +kernel
theorem w_tables : (allAtoms (Jvm.Cond.code x code maxLocals ret :: tables_1)).before args0 about1 = true := by
  rw [allAtoms_all]
  show words1.all (fun c => c.before args0 about1) = true
  refine all_split ?_ w_codes
  rw [← List.take_append_drop 24 words1, List.all_append, w_t1, ← List.take_append_drop 24 (words1.drop 24), List.all_append, w_t2, ← List.take_append_drop 24 ((words1.drop 24).drop 24), List.all_append, w_t3, ← List.take_append_drop 24 (((words1.drop 24).drop 24).drop 24), List.all_append, w_t4, ← List.take_append_drop 24 ((((words1.drop 24).drop 24).drop 24).drop 24), List.all_append, w_t5, ← List.take_append_drop 24 (((((words1.drop 24).drop 24).drop 24).drop 24).drop 24), List.all_append, w_t6, ← List.take_append_drop 24 ((((((words1.drop 24).drop 24).drop 24).drop 24).drop 24).drop 24), List.all_append, w_t7, ← List.take_append_drop 24 (((((((words1.drop 24).drop 24).drop 24).drop 24).drop 24).drop 24).drop 24), List.all_append, w_t8, ← List.take_append_drop 24 ((((((((words1.drop 24).drop 24).drop 24).drop 24).drop 24).drop 24).drop 24).drop 24), List.all_append, w_t9, ← List.take_append_drop 24 (((((((((words1.drop 24).drop 24).drop 24).drop 24).drop 24).drop 24).drop 24).drop 24).drop 24), List.all_append, w_t10, w_t11]
  rfl
set_option maxRecDepth 65536 in
theorem w_rest : rest_1_c.before args0 about1 = true := by decide +kernel
set_option maxRecDepth 65536 in
theorem w_case : (Jvm.Cond.and given_1 narrow_1).before args0 about1 = true := by decide +kernel
theorem w_applies : (headSpec (Jvm.Cond.code x code maxLocals ret :: tables_1) room_1).applies x e0.platform about1 = true :=
  (Spec.applies_iff w_frames).mpr ⟨w_running, w_runnable, w_alone, w_named, w_hears, w_ripe, w_room, w_tables⟩
theorem atStart : AtStart classFile x code maxLocals ret World_1 tables_1 room_1 Calls_1 rest_1 Pre_1 launch0 p0 e0 about1 theMethod args0 below0 :=
  ⟨lists_1, trivial, launch0.admits_env _ _ _, launch0.least_env, fairChoices_fair.cas, fairChoices_fair.clock, w_frames, w_args, w_heap, w_applies, ⟨⟨36, k36, 9, by decide +kernel, rfl, rfl, _, rfl, rfl⟩, trivial⟩, w_rest, w_case⟩
end start1
theorem witness_1 : WitnessClaimed_1 := ⟨start1.p0, start1.e0, start1.about1, start1.theMethod, start1.args0, start1.below0, start1.atStart⟩
end Jvm.Pilot.@@N@@
