import JvmDerived
import JvmDerived.Pilot.@@N@@Statement
import JvmDerived.Pilot.@@N@@Code
set_option linter.unusedVariables false
set_option linter.unusedSimpArgs false
namespace Jvm.Pilot.@@N@@
open Jvm Jvm.ClassFile Sem Op Lib Jvm.Free Jvm.Stand Jvm.LawKit Jvm.RoadKit Bundle Jvm.Pilot.@@N@@.Jvm.D
/-! THE WALK, SAID FORWARD: `G w Q h k n pc Ls st` says: from every point of the walk `w` whose heap is h, with k cells and n slots made, standing at pc with the locals Ls and the stack st, the run ends in a return that meets Q. One law a step carries G from the next point back to this one. -/
abbrev Wk := Program × Launch × Env × Room × State × MethodId × Array Value × List Frame × Method × Code × Nat
abbrev Wk.p (w : Wk) : Program := w.1
abbrev Wk.l (w : Wk) : Launch := w.2.1
abbrev Wk.e (w : Wk) : Env := w.2.2.1
abbrev Wk.R (w : Wk) : Room := w.2.2.2.1
abbrev Wk.s (w : Wk) : State := w.2.2.2.2.1
abbrev Wk.m (w : Wk) : MethodId := w.2.2.2.2.2.1
abbrev Wk.args (w : Wk) : Array Value := w.2.2.2.2.2.2.1
abbrev Wk.below (w : Wk) : List Frame := w.2.2.2.2.2.2.2.1
abbrev Wk.meth (w : Wk) : Method := w.2.2.2.2.2.2.2.2.1
abbrev Wk.c (w : Wk) : Code := w.2.2.2.2.2.2.2.2.2.1
abbrev Wk.n0 (w : Wk) : Nat := w.2.2.2.2.2.2.2.2.2.2
def Cx (w : Wk) (l : Launch) (Z : State) (own : String) (bytes : ByteArray) (mx : Nat) (rt : Option FieldType) (nm : String) (rm : Room) (n0 : Nat) : Prop :=
  w.l = l ∧ w.p.tables.exec = Jvm.exec ∧ Z.Warmed39 w.s.vm ∧ w.c.code = bytes ∧ w.c.maxLocals = mx ∧ w.s.vm.findClass own = some w.m.cls ∧ w.meth.sig.returnType = rt ∧ w.meth.locks = false ∧ w.meth.name = nm ∧ w.R = rm ∧ w.n0 = n0
def Ends (w : Wk) (Q : Option Value → Heap → Prop) (A : State) : Prop :=
  ∃ s₂ o, Steps w.p.tables w.e w.below A s₂ ∧ s₂.status = .running ∧ Ended s₂ w.below o ∧ ∃ v L, o = .returned v ∧ (Q v s₂.heap ∧ Fr w.n0 L) ∧ FrameEnd w.s o s₂ L w.R.cells w.R.slots
def G (w : Wk) (Q : Option Value → Heap → Prop) (h : Heap) (k n pc : Nat) (Ls : Array Slot) (st : List Value) : Prop :=
  ∀ (T : State) (locs : List Loc), Stand w.p w.l w.e w.R w.s w.m w.args w.below w.meth w.c T locs k n → T.heap = h → Fr w.n0 locs → Ends w Q (T.setTop (mkF w.m pc Ls st))
def Con (l : Launch) (Z : State) (y : MethodName) (bytes : ByteArray) (mx : Nat) (rt : Option FieldType) (rm : Room) (as : Array Value) (h : Heap) (n0 : Nat) (Q : Option Value → Heap → Prop) : Prop :=
  ∀ ws, MetFree l y (head1 (Jvm.Cond.code y bytes mx rt :: ws) rm) (fun a U => a = as ∧ Z.Warmed39 U.vm ∧ U.heap = h) (fun _ _ _ _ _ => True) (fun _ U o U' => ∃ v L, o = .returned v ∧ (Q v U'.heap ∧ Fr n0 L) ∧ FrameEnd U o U' L rm.cells rm.slots)
def psh (v : Option Value) (st : List Value) : List Value := match v with | none => st | some x => x :: st
theorem psh_eq (v : Option Value) (st : List Value) : v.toList ++ st = psh v st := by cases v <;> rfl
section Gs
variable {w : Wk} {l : Launch} {Z : State} {own : String} {bytes : ByteArray} {mx : Nat} {rt : Option FieldType} {nm : String} {rm : Room} {n0 : Nat} {Q : Option Value → Heap → Prop} {h : Heap} {k n pc pc' : Nat} {Ls Ls' : Array Slot} {st rest : List Value} {a0 : Array Value} {t : FieldType} {k' n' : Nat}
theorem Con.mk {y : MethodName} {as : Array Value} (hp : plainFor y = true) (hef : ∀ m, entryFrame m as mx = mkF m 0 Ls []) (body : ∀ w : Wk, Cx w l Z y.cls bytes mx rt y.name rm n0 → G w Q h 0 0 0 Ls []) : Con l Z y bytes mx rt rm as h n0 Q := by
  intro ws
  refine MetFree.of_bodySF hp hisR ?_
  intro p e s m args below meth c s₁ Bd hml0 hP hK
  obtain ⟨rfl, hZ, hh⟩ := hP
  have X0 : Stand p l e rm s m args below meth c s₁ [] 0 0 := Stand.of_body Bd
  have e0 : s₁.heap = h := by rw [← hh, Bd.state]; rfl
  obtain ⟨s₂, o, h1, h2, h3, h4⟩ := body (p, l, e, rm, s, m, args, below, meth, c, n0) ⟨rfl, Bd.exec, hZ, Bd.bytes, hml0, findClass_of_methodNamed Bd.named, Bd.returns, Bd.notSynchronized, (name_of_methodNamed Bd.named Bd.method).1, rfl, rfl⟩ s₁ [] X0 e0 (Fr.nil n0)
  exact ⟨s₂, o, castTop (hef m) h1, h2, h3, h4⟩
theorem Cx.ex (C : Cx w l Z own bytes mx rt nm rm n0) : w.p.tables.exec = Jvm.exec := C.2.1
theorem Cx.hZ (C : Cx w l Z own bytes mx rt nm rm n0) : Z.Warmed39 w.s.vm := C.2.2.1
theorem Cx.dec (C : Cx w l Z own bytes mx rt nm rm n0) {r : Except DecodeError (Instr × Nat)} (hd : decode bytes pc = r) : decode w.c.code pc = r := hb C.2.2.2.1 hd
theorem Cx.ow (C : Cx w l Z own bytes mx rt nm rm n0) : w.s.vm.findClass own = some w.m.cls := C.2.2.2.2.2.1
theorem Cx.ml (C : Cx w l Z own bytes mx rt nm rm n0) : w.c.maxLocals = mx := C.2.2.2.2.1
theorem Cx.ret (C : Cx w l Z own bytes mx rt nm rm n0) : w.meth.sig.returnType = rt := C.2.2.2.2.2.2.1
theorem Cx.lk (C : Cx w l Z own bytes mx rt nm rm n0) : w.meth.locks = false := C.2.2.2.2.2.2.2.1
theorem Cx.mn (C : Cx w l Z own bytes mx rt nm rm n0) : w.meth.name = nm := C.2.2.2.2.2.2.2.2.1
theorem Cx.ro (C : Cx w l Z own bytes mx rt nm rm n0) : w.R = rm := C.2.2.2.2.2.2.2.2.2.1
theorem Cx.nn (C : Cx w l Z own bytes mx rt nm rm n0) : w.n0 = n0 := C.2.2.2.2.2.2.2.2.2.2
theorem G.adv (st' : ∀ T locs, Stand w.p w.l w.e w.R w.s w.m w.args w.below w.meth w.c T locs k n → T.heap = h → ∀ t, Steps w.p.tables w.e w.below (T.setTop (mkF w.m pc' Ls' rest)) t → Steps w.p.tables w.e w.below (T.setTop (mkF w.m pc Ls st)) t) (g : G w Q h k n pc' Ls' rest) : G w Q h k n pc Ls st :=
  fun T locs X eT N => let ⟨s₂, o, h1, h2⟩ := g T locs X eT N; ⟨s₂, o, st' T locs X eT _ h1, h2⟩
theorem G.to {T T' : State} {locs' : List Loc} {h' : Heap} {k' n' : Nat} (X' : Stand w.p w.l w.e w.R w.s w.m w.args w.below w.meth w.c T' locs' k' n') (eT : T'.heap = h') (N : Fr w.n0 locs') (s' : ∀ t, Steps w.p.tables w.e w.below (T'.setTop (mkF w.m pc' Ls' rest)) t → Steps w.p.tables w.e w.below (T.setTop (mkF w.m pc Ls st)) t) (g : G w Q h' k' n' pc' Ls' rest) : Ends w Q (T.setTop (mkF w.m pc Ls st)) :=
  let ⟨s₂, o, h1, h2⟩ := g T' locs' X' eT N; ⟨s₂, o, s' _ h1, h2⟩
theorem G.more (hk : k ≤ k') (hn : n ≤ n') (g : G w Q h k' n' pc Ls st) : G w Q h k n pc Ls st := fun T locs X eT N => g T locs (X.more hk hn) eT N
/-! plain steps -/
theorem g_aloadN (C : Cx w l Z own bytes mx rt nm rm n0) {i : Fin 4} {v : Value} (hd : decode bytes pc = .ok (.aload_n i, 1)) (hl : Ls[i.val]? = some (.val v)) (hv : v.isRef = true) (hp : pc + 1 = pc') (g : G w Q h k n pc' Ls (v :: st)) : G w Q h k n pc Ls st := by
  subst hp; exact g.adv fun T locs X _ t r => XS.aloadN X.here C.ex rfl (C.dec hd) hl hv r
theorem g_aload (C : Cx w l Z own bytes mx rt nm rm n0) {i : Nat} {v : Value} (hd : decode bytes pc = .ok (.aload i, 2)) (hl : Ls[i]? = some (.val v)) (hv : v.isRef = true) (hp : pc + 2 = pc') (g : G w Q h k n pc' Ls (v :: st)) : G w Q h k n pc Ls st := by
  subst hp; exact g.adv fun T locs X _ t r => XS.aload X.here C.ex rfl (C.dec hd) hl hv r
theorem g_iloadN (C : Cx w l Z own bytes mx rt nm rm n0) {i : Fin 4} {v : Int32} (hd : decode bytes pc = .ok (.iload_n i, 1)) (hl : Ls[i.val]? = some (.val (.int v))) (hp : pc + 1 = pc') (g : G w Q h k n pc' Ls (.int v :: st)) : G w Q h k n pc Ls st := by
  subst hp; exact g.adv fun T locs X _ t r => XS.iloadN X.here C.ex rfl (C.dec hd) hl r
theorem g_iload (C : Cx w l Z own bytes mx rt nm rm n0) {i : Nat} {v : Int32} (hd : decode bytes pc = .ok (.iload i, 2)) (hl : Ls[i]? = some (.val (.int v))) (hp : pc + 2 = pc') (g : G w Q h k n pc' Ls (.int v :: st)) : G w Q h k n pc Ls st := by
  subst hp; exact g.adv fun T locs X _ t r => XS.iload X.here C.ex rfl (C.dec hd) hl r
theorem g_lloadN (C : Cx w l Z own bytes mx rt nm rm n0) {i : Fin 4} {v : Int64} (hd : decode bytes pc = .ok (.lload_n i, 1)) (hl : Ls[i.val]? = some (.val (.long v))) (hp : pc + 1 = pc') (g : G w Q h k n pc' Ls (.long v :: st)) : G w Q h k n pc Ls st := by
  subst hp; exact g.adv fun T locs X _ t r => XS.lloadN X.here C.ex rfl (C.dec hd) hl r
theorem g_lload (C : Cx w l Z own bytes mx rt nm rm n0) {i : Nat} {v : Int64} (hd : decode bytes pc = .ok (.lload i, 2)) (hl : Ls[i]? = some (.val (.long v))) (hp : pc + 2 = pc') (g : G w Q h k n pc' Ls (.long v :: st)) : G w Q h k n pc Ls st := by
  subst hp; exact g.adv fun T locs X _ t r => XS.lload X.here C.ex rfl (C.dec hd) hl r
theorem g_istoreN (C : Cx w l Z own bytes mx rt nm rm n0) {i : Fin 4} {x : Int32} (hd : decode bytes pc = .ok (.istore_n i, 1)) (hs : st = .int x :: rest) (hl : storeLocals Ls i.val (.int x) = some Ls') (hp : pc + 1 = pc') (g : G w Q h k n pc' Ls' rest) : G w Q h k n pc Ls st := by
  subst hp; exact g.adv fun T locs X _ t r => XS.istoreN X.here C.ex rfl (C.dec hd) hs hl r
theorem g_istore (C : Cx w l Z own bytes mx rt nm rm n0) {i : Nat} {x : Int32} (hd : decode bytes pc = .ok (.istore i, 2)) (hs : st = .int x :: rest) (hl : storeLocals Ls i (.int x) = some Ls') (hp : pc + 2 = pc') (g : G w Q h k n pc' Ls' rest) : G w Q h k n pc Ls st := by
  subst hp; exact g.adv fun T locs X _ t r => XS.istore X.here C.ex rfl (C.dec hd) hs hl r
theorem g_lstoreN (C : Cx w l Z own bytes mx rt nm rm n0) {i : Fin 4} {x : Int64} (hd : decode bytes pc = .ok (.lstore_n i, 1)) (hs : st = .long x :: rest) (hl : storeLocals Ls i.val (.long x) = some Ls') (hp : pc + 1 = pc') (g : G w Q h k n pc' Ls' rest) : G w Q h k n pc Ls st := by
  subst hp; exact g.adv fun T locs X _ t r => XS.lstoreN X.here C.ex rfl (C.dec hd) hs hl r
theorem g_lstore (C : Cx w l Z own bytes mx rt nm rm n0) {i : Nat} {x : Int64} (hd : decode bytes pc = .ok (.lstore i, 2)) (hs : st = .long x :: rest) (hl : storeLocals Ls i (.long x) = some Ls') (hp : pc + 2 = pc') (g : G w Q h k n pc' Ls' rest) : G w Q h k n pc Ls st := by
  subst hp; exact g.adv fun T locs X _ t r => XS.lstore X.here C.ex rfl (C.dec hd) hs hl r
theorem g_astoreN (C : Cx w l Z own bytes mx rt nm rm n0) {i : Fin 4} {x : Value} (hd : decode bytes pc = .ok (.astore_n i, 1)) (hs : st = x :: rest) (hv : x.isRef = true) (hl : storeLocals Ls i.val x = some Ls') (hp : pc + 1 = pc') (g : G w Q h k n pc' Ls' rest) : G w Q h k n pc Ls st := by
  subst hp; exact g.adv fun T locs X _ t r => XS.astoreN X.here C.ex rfl (C.dec hd) hs hv hl r
theorem g_astore (C : Cx w l Z own bytes mx rt nm rm n0) {i : Nat} {x : Value} (hd : decode bytes pc = .ok (.astore i, 2)) (hs : st = x :: rest) (hv : x.isRef = true) (hl : storeLocals Ls i x = some Ls') (hp : pc + 2 = pc') (g : G w Q h k n pc' Ls' rest) : G w Q h k n pc Ls st := by
  subst hp; exact g.adv fun T locs X _ t r => XS.astore X.here C.ex rfl (C.dec hd) hs hv hl r
theorem g_iinc (C : Cx w l Z own bytes mx rt nm rm n0) {i : Nat} {cst : Int} {x : Int32} (hd : decode bytes pc = .ok (.iinc i cst, 3)) (hl : Ls[i]? = some (.val (.int x))) (hl' : storeLocals Ls i (.int (x + Int32.ofInt cst)) = some Ls') (hp : pc + 3 = pc') (g : G w Q h k n pc' Ls' st) : G w Q h k n pc Ls st := by
  subst hp; exact g.adv fun T locs X _ t r => XS.iinc X.here C.ex rfl (C.dec hd) hl hl' r
theorem g_iconst (C : Cx w l Z own bytes mx rt nm rm n0) {i : Int} {v : Int32} (hd : decode bytes pc = .ok (.iconst i, 1)) (hv : Int32.ofInt i = v) (hp : pc + 1 = pc') (g : G w Q h k n pc' Ls (.int v :: st)) : G w Q h k n pc Ls st := by
  subst hp hv; exact g.adv fun T locs X _ t r => XS.iconst X.here C.ex rfl (C.dec hd) r
theorem g_bipush (C : Cx w l Z own bytes mx rt nm rm n0) {i : Int} {v : Int32} (hd : decode bytes pc = .ok (.bipush i, 2)) (hv : (Int8.ofInt i).toInt32 = v) (hp : pc + 2 = pc') (g : G w Q h k n pc' Ls (.int v :: st)) : G w Q h k n pc Ls st := by
  subst hp hv; exact g.adv fun T locs X _ t r => XS.bipush X.here C.ex rfl (C.dec hd) r
theorem g_sipush (C : Cx w l Z own bytes mx rt nm rm n0) {i : Int} {v : Int32} (hd : decode bytes pc = .ok (.sipush i, 3)) (hv : (Int16.ofInt i).toInt32 = v) (hp : pc + 3 = pc') (g : G w Q h k n pc' Ls (.int v :: st)) : G w Q h k n pc Ls st := by
  subst hp hv; exact g.adv fun T locs X _ t r => XS.sipush X.here C.ex rfl (C.dec hd) r
theorem g_lconst (C : Cx w l Z own bytes mx rt nm rm n0) {i : Fin 2} {v : Int64} (hd : decode bytes pc = .ok (.lconst i, 1)) (hv : Int64.ofNat i.val = v) (hp : pc + 1 = pc') (g : G w Q h k n pc' Ls (.long v :: st)) : G w Q h k n pc Ls st := by
  subst hp hv; exact g.adv fun T locs X _ t r => XS.lconst X.here C.ex rfl (C.dec hd) r
theorem g_aconstNull (C : Cx w l Z own bytes mx rt nm rm n0) (hd : decode bytes pc = .ok (.aconst_null, 1)) (hp : pc + 1 = pc') (g : G w Q h k n pc' Ls (.null :: st)) : G w Q h k n pc Ls st := by
  subst hp; exact g.adv fun T locs X _ t r => XS.aconstNull X.here C.ex rfl (C.dec hd) r
theorem g_ldcInt (C : Cx w l Z own bytes mx rt nm rm n0) {i : Nat} {v : Int32} (hw : (Jvm.Cond.constant own i v).before a0 Z = true) (hd : decode bytes pc = .ok (.ldc i, 2)) (hp : pc + 2 = pc') (g : G w Q h k n pc' Ls (.int v :: st)) : G w Q h k n pc Ls st := by
  subst hp; exact g.adv fun T locs X _ t r => X.ldcInt C.ex C.ow (mvT C.hZ hw) (g := mkF w.m pc Ls st) rfl (C.dec hd) t r
theorem g_ldc2Long (C : Cx w l Z own bytes mx rt nm rm n0) {i : Nat} {v : Int64} (hw : (Jvm.Cond.constantLong own i v).before a0 Z = true) (hd : decode bytes pc = .ok (.ldc2_w i, 3)) (hp : pc + 3 = pc') (g : G w Q h k n pc' Ls (.long v :: st)) : G w Q h k n pc Ls st := by
  subst hp; exact g.adv fun T locs X _ t r => X.ldc2Long C.ex C.ow (mvT C.hZ hw) (g := mkF w.m pc Ls st) rfl (C.dec hd) t r
theorem g_iadd (C : Cx w l Z own bytes mx rt nm rm n0) {x y : Int32} (hd : decode bytes pc = .ok (.iadd, 1)) (hs : st = .int y :: .int x :: rest) (hp : pc + 1 = pc') (g : G w Q h k n pc' Ls (.int (x + y) :: rest)) : G w Q h k n pc Ls st := by
  subst hp; exact g.adv fun T locs X _ t r => XS.iadd X.here C.ex rfl (C.dec hd) hs r
theorem g_isub (C : Cx w l Z own bytes mx rt nm rm n0) {x y : Int32} (hd : decode bytes pc = .ok (.isub, 1)) (hs : st = .int y :: .int x :: rest) (hp : pc + 1 = pc') (g : G w Q h k n pc' Ls (.int (x - y) :: rest)) : G w Q h k n pc Ls st := by
  subst hp; exact g.adv fun T locs X _ t r => XS.isub X.here C.ex rfl (C.dec hd) hs r
theorem g_imul (C : Cx w l Z own bytes mx rt nm rm n0) {x y : Int32} (hd : decode bytes pc = .ok (.imul, 1)) (hs : st = .int y :: .int x :: rest) (hp : pc + 1 = pc') (g : G w Q h k n pc' Ls (.int (x * y) :: rest)) : G w Q h k n pc Ls st := by
  subst hp; exact g.adv fun T locs X _ t r => XS.imul X.here C.ex rfl (C.dec hd) hs r
theorem g_iand (C : Cx w l Z own bytes mx rt nm rm n0) {x y : Int32} (hd : decode bytes pc = .ok (.iand, 1)) (hs : st = .int y :: .int x :: rest) (hp : pc + 1 = pc') (g : G w Q h k n pc' Ls (.int (x &&& y) :: rest)) : G w Q h k n pc Ls st := by
  subst hp; exact g.adv fun T locs X _ t r => XS.iand X.here C.ex rfl (C.dec hd) hs r
theorem g_ior (C : Cx w l Z own bytes mx rt nm rm n0) {x y : Int32} (hd : decode bytes pc = .ok (.ior, 1)) (hs : st = .int y :: .int x :: rest) (hp : pc + 1 = pc') (g : G w Q h k n pc' Ls (.int (x ||| y) :: rest)) : G w Q h k n pc Ls st := by
  subst hp; exact g.adv fun T locs X _ t r => XS.ior X.here C.ex rfl (C.dec hd) hs r
theorem g_ixor (C : Cx w l Z own bytes mx rt nm rm n0) {x y : Int32} (hd : decode bytes pc = .ok (.ixor, 1)) (hs : st = .int y :: .int x :: rest) (hp : pc + 1 = pc') (g : G w Q h k n pc' Ls (.int (x ^^^ y) :: rest)) : G w Q h k n pc Ls st := by
  subst hp; exact g.adv fun T locs X _ t r => XS.ixor X.here C.ex rfl (C.dec hd) hs r
theorem g_ladd (C : Cx w l Z own bytes mx rt nm rm n0) {x y : Int64} (hd : decode bytes pc = .ok (.ladd, 1)) (hs : st = .long y :: .long x :: rest) (hp : pc + 1 = pc') (g : G w Q h k n pc' Ls (.long (x + y) :: rest)) : G w Q h k n pc Ls st := by
  subst hp; exact g.adv fun T locs X _ t r => XS.ladd X.here C.ex rfl (C.dec hd) hs r
theorem g_lsub (C : Cx w l Z own bytes mx rt nm rm n0) {x y : Int64} (hd : decode bytes pc = .ok (.lsub, 1)) (hs : st = .long y :: .long x :: rest) (hp : pc + 1 = pc') (g : G w Q h k n pc' Ls (.long (x - y) :: rest)) : G w Q h k n pc Ls st := by
  subst hp; exact g.adv fun T locs X _ t r => XS.lsub X.here C.ex rfl (C.dec hd) hs r
theorem g_lmul (C : Cx w l Z own bytes mx rt nm rm n0) {x y : Int64} (hd : decode bytes pc = .ok (.lmul, 1)) (hs : st = .long y :: .long x :: rest) (hp : pc + 1 = pc') (g : G w Q h k n pc' Ls (.long (x * y) :: rest)) : G w Q h k n pc Ls st := by
  subst hp; exact g.adv fun T locs X _ t r => XS.lmul X.here C.ex rfl (C.dec hd) hs r
theorem g_land (C : Cx w l Z own bytes mx rt nm rm n0) {x y : Int64} (hd : decode bytes pc = .ok (.land, 1)) (hs : st = .long y :: .long x :: rest) (hp : pc + 1 = pc') (g : G w Q h k n pc' Ls (.long (x &&& y) :: rest)) : G w Q h k n pc Ls st := by
  subst hp; exact g.adv fun T locs X _ t r => XS.land X.here C.ex rfl (C.dec hd) hs r
theorem g_lor (C : Cx w l Z own bytes mx rt nm rm n0) {x y : Int64} (hd : decode bytes pc = .ok (.lor, 1)) (hs : st = .long y :: .long x :: rest) (hp : pc + 1 = pc') (g : G w Q h k n pc' Ls (.long (x ||| y) :: rest)) : G w Q h k n pc Ls st := by
  subst hp; exact g.adv fun T locs X _ t r => XS.lor X.here C.ex rfl (C.dec hd) hs r
theorem g_lxor (C : Cx w l Z own bytes mx rt nm rm n0) {x y : Int64} (hd : decode bytes pc = .ok (.lxor, 1)) (hs : st = .long y :: .long x :: rest) (hp : pc + 1 = pc') (g : G w Q h k n pc' Ls (.long (x ^^^ y) :: rest)) : G w Q h k n pc Ls st := by
  subst hp; exact g.adv fun T locs X _ t r => XS.lxor X.here C.ex rfl (C.dec hd) hs r
theorem g_ishl (C : Cx w l Z own bytes mx rt nm rm n0) {x y : Int32} (hd : decode bytes pc = .ok (.ishl, 1)) (hs : st = .int y :: .int x :: rest) (hp : pc + 1 = pc') (g : G w Q h k n pc' Ls (.int (x <<< (y &&& 31)) :: rest)) : G w Q h k n pc Ls st := by
  subst hp; exact g.adv fun T locs X _ t r => XS.ishl X.here C.ex rfl (C.dec hd) hs r
theorem g_ishr (C : Cx w l Z own bytes mx rt nm rm n0) {x y : Int32} (hd : decode bytes pc = .ok (.ishr, 1)) (hs : st = .int y :: .int x :: rest) (hp : pc + 1 = pc') (g : G w Q h k n pc' Ls (.int (x >>> (y &&& 31)) :: rest)) : G w Q h k n pc Ls st := by
  subst hp; exact g.adv fun T locs X _ t r => XS.ishr X.here C.ex rfl (C.dec hd) hs r
theorem g_iushr (C : Cx w l Z own bytes mx rt nm rm n0) {x y : Int32} (hd : decode bytes pc = .ok (.iushr, 1)) (hs : st = .int y :: .int x :: rest) (hp : pc + 1 = pc') (g : G w Q h k n pc' Ls (.int ((x.toUInt32 >>> (y &&& 31).toUInt32).toInt32) :: rest)) : G w Q h k n pc Ls st := by
  subst hp; exact g.adv fun T locs X _ t r => XS.iushr X.here C.ex rfl (C.dec hd) hs r
theorem g_ineg (C : Cx w l Z own bytes mx rt nm rm n0) {x : Int32} (hd : decode bytes pc = .ok (.ineg, 1)) (hs : st = .int x :: rest) (hp : pc + 1 = pc') (g : G w Q h k n pc' Ls (.int (-x) :: rest)) : G w Q h k n pc Ls st := by
  subst hp; exact g.adv fun T locs X _ t r => XS.ineg X.here C.ex rfl (C.dec hd) hs r
theorem g_lneg (C : Cx w l Z own bytes mx rt nm rm n0) {x : Int64} (hd : decode bytes pc = .ok (.lneg, 1)) (hs : st = .long x :: rest) (hp : pc + 1 = pc') (g : G w Q h k n pc' Ls (.long (-x) :: rest)) : G w Q h k n pc Ls st := by
  subst hp; exact g.adv fun T locs X _ t r => XS.lneg X.here C.ex rfl (C.dec hd) hs r
theorem g_i2l (C : Cx w l Z own bytes mx rt nm rm n0) {x : Int32} (hd : decode bytes pc = .ok (.i2l, 1)) (hs : st = .int x :: rest) (hp : pc + 1 = pc') (g : G w Q h k n pc' Ls (.long x.toInt64 :: rest)) : G w Q h k n pc Ls st := by
  subst hp; exact g.adv fun T locs X _ t r => XS.i2l X.here C.ex rfl (C.dec hd) hs r
theorem g_l2i (C : Cx w l Z own bytes mx rt nm rm n0) {x : Int64} (hd : decode bytes pc = .ok (.l2i, 1)) (hs : st = .long x :: rest) (hp : pc + 1 = pc') (g : G w Q h k n pc' Ls (.int x.toInt32 :: rest)) : G w Q h k n pc Ls st := by
  subst hp; exact g.adv fun T locs X _ t r => XS.l2i X.here C.ex rfl (C.dec hd) hs r
theorem g_i2b (C : Cx w l Z own bytes mx rt nm rm n0) {x : Int32} (hd : decode bytes pc = .ok (.i2b, 1)) (hs : st = .int x :: rest) (hp : pc + 1 = pc') (g : G w Q h k n pc' Ls (.int x.toInt8.toInt32 :: rest)) : G w Q h k n pc Ls st := by
  subst hp; exact g.adv fun T locs X _ t r => XS.i2b X.here C.ex rfl (C.dec hd) hs r
theorem g_i2s (C : Cx w l Z own bytes mx rt nm rm n0) {x : Int32} (hd : decode bytes pc = .ok (.i2s, 1)) (hs : st = .int x :: rest) (hp : pc + 1 = pc') (g : G w Q h k n pc' Ls (.int x.toInt16.toInt32 :: rest)) : G w Q h k n pc Ls st := by
  subst hp; exact g.adv fun T locs X _ t r => XS.i2s X.here C.ex rfl (C.dec hd) hs r
theorem g_i2c (C : Cx w l Z own bytes mx rt nm rm n0) {x : Int32} (hd : decode bytes pc = .ok (.i2c, 1)) (hs : st = .int x :: rest) (hp : pc + 1 = pc') (g : G w Q h k n pc' Ls (.int x.toUInt32.toUInt16.toUInt32.toInt32 :: rest)) : G w Q h k n pc Ls st := by
  subst hp; exact g.adv fun T locs X _ t r => XS.i2c X.here C.ex rfl (C.dec hd) hs r
theorem g_irem (C : Cx w l Z own bytes mx rt nm rm n0) {x y : Int32} (hd : decode bytes pc = .ok (.irem, 1)) (hs : st = .int y :: .int x :: rest) (hy : y ≠ 0) (hp : pc + 1 = pc') (g : G w Q h k n pc' Ls (.int (x % y) :: rest)) : G w Q h k n pc Ls st := by
  subst hp; exact g.adv fun T locs X _ t r => iremM (g := mkF w.m pc Ls st) X C.ex rfl (C.dec hd) hs hy r
theorem g_idiv (C : Cx w l Z own bytes mx rt nm rm n0) {x y : Int32} (hd : decode bytes pc = .ok (.idiv, 1)) (hs : st = .int y :: .int x :: rest) (hy : y ≠ 0) (hp : pc + 1 = pc') (g : G w Q h k n pc' Ls (.int (x / y) :: rest)) : G w Q h k n pc Ls st := by
  subst hp; exact g.adv fun T locs X _ t r => XS.idiv X.here C.ex rfl (C.dec hd) hs hy r
theorem g_ldiv (C : Cx w l Z own bytes mx rt nm rm n0) {x y : Int64} (hd : decode bytes pc = .ok (.ldiv, 1)) (hs : st = .long y :: .long x :: rest) (hy : y ≠ 0) (hp : pc + 1 = pc') (g : G w Q h k n pc' Ls (.long (x / y) :: rest)) : G w Q h k n pc Ls st := by
  subst hp; exact g.adv fun T locs X _ t r => XS.ldiv X.here C.ex rfl (C.dec hd) hs hy r
theorem g_lrem (C : Cx w l Z own bytes mx rt nm rm n0) {x y : Int64} (hd : decode bytes pc = .ok (.lrem, 1)) (hs : st = .long y :: .long x :: rest) (hy : y ≠ 0) (hp : pc + 1 = pc') (g : G w Q h k n pc' Ls (.long (x - (x / y) * y) :: rest)) : G w Q h k n pc Ls st := by
  subst hp; exact g.adv fun T locs X _ t r => XS.lrem X.here C.ex rfl (C.dec hd) hs hy r
theorem g_lcmp (C : Cx w l Z own bytes mx rt nm rm n0) {x y : Int64} (hd : decode bytes pc = .ok (.lcmp, 1)) (hs : st = .long y :: .long x :: rest) (hp : pc + 1 = pc') (g : G w Q h k n pc' Ls (.int (lcmpW x y) :: rest)) : G w Q h k n pc Ls st := by
  subst hp; exact g.adv fun T locs X _ t r => XS.lcmp X.here C.ex rfl (C.dec hd) hs r
theorem g_dup (C : Cx w l Z own bytes mx rt nm rm n0) {x : Value} (hd : decode bytes pc = .ok (.dup, 1)) (hs : st = x :: rest) (hc : x.category = 1) (hp : pc + 1 = pc') (g : G w Q h k n pc' Ls (x :: x :: rest)) : G w Q h k n pc Ls st := by
  subst hp; exact g.adv fun T locs X _ t r => XS.dup X.here C.ex rfl (C.dec hd) hs hc r
theorem g_pop (C : Cx w l Z own bytes mx rt nm rm n0) {x : Value} (hd : decode bytes pc = .ok (.pop, 1)) (hs : st = x :: rest) (hc : x.category = 1) (hp : pc + 1 = pc') (g : G w Q h k n pc' Ls rest) : G w Q h k n pc Ls st := by
  subst hp; exact g.adv fun T locs X _ t r => XS.pop X.here C.ex rfl (C.dec hd) hs hc r
theorem g_dup_x1 (C : Cx w l Z own bytes mx rt nm rm n0) {x y : Value} (hd : decode bytes pc = .ok (.dup_x1, 1)) (hs : st = x :: y :: rest) (hc : x.category = 1) (hc' : y.category = 1) (hp : pc + 1 = pc') (g : G w Q h k n pc' Ls (x :: y :: x :: rest)) : G w Q h k n pc Ls st := by
  subst hp; exact g.adv fun T locs X _ t r => XS.dupX1 X.here C.ex rfl (C.dec hd) hs hc hc' r
theorem g_dup2 (C : Cx w l Z own bytes mx rt nm rm n0) {x y : Value} (hd : decode bytes pc = .ok (.dup2, 1)) (hs : st = x :: y :: rest) (hc : x.category = 1) (hc' : y.category = 1) (hp : pc + 1 = pc') (g : G w Q h k n pc' Ls (x :: y :: x :: y :: rest)) : G w Q h k n pc Ls st := by
  subst hp; exact g.adv fun T locs X _ t r => XT.dup2 X.here C.ex rfl (C.dec hd) hs hc hc' r
theorem g_dup2L (C : Cx w l Z own bytes mx rt nm rm n0) {x : Int64} (hd : decode bytes pc = .ok (.dup2, 1)) (hs : st = .long x :: rest) (hp : pc + 1 = pc') (g : G w Q h k n pc' Ls (.long x :: .long x :: rest)) : G w Q h k n pc Ls st := by
  subst hp; exact g.adv fun T locs X _ t r => XT.dup2L X.here C.ex rfl (C.dec hd) hs r
theorem g_pop2L (C : Cx w l Z own bytes mx rt nm rm n0) {x : Int64} (hd : decode bytes pc = .ok (.pop2, 1)) (hs : st = .long x :: rest) (hp : pc + 1 = pc') (g : G w Q h k n pc' Ls rest) : G w Q h k n pc Ls st := by
  subst hp hs; exact g.adv fun T locs X _ t r => by
    have hx := C.ex
    have hd' := C.dec hd
    show Steps w.p.tables w.e w.below (T.setTop { method := w.m, pc := pc, locals := Ls, stack := _ :: rest, locked := none }) _
    jvm_step X.here [X.here.top, hx, hd', Value.category]
    exact r
theorem g_dup2_x2L (C : Cx w l Z own bytes mx rt nm rm n0) {x : Int64} {y : Int32} {z : Addr} (hd : decode bytes pc = .ok (.dup2_x2, 1)) (hs : st = .long x :: .int y :: .ref z :: rest) (hp : pc + 1 = pc') (g : G w Q h k n pc' Ls (.long x :: .int y :: .ref z :: .long x :: rest)) : G w Q h k n pc Ls st := by
  subst hp hs; exact g.adv fun T locs X _ t r => by
    have hx := C.ex
    have hd' := C.dec hd
    show Steps w.p.tables w.e w.below (T.setTop { method := w.m, pc := pc, locals := Ls, stack := _ :: _ :: _ :: rest, locked := none }) _
    jvm_step X.here [X.here.top, hx, hd', Value.category]
    exact r
theorem g_goto (C : Cx w l Z own bytes mx rt nm rm n0) {o : Int} (hd : decode bytes pc = .ok (.goto o, 3)) (ho : 0 ≤ (pc : Int) + o) (hp : ((pc : Int) + o).toNat = pc') (g : G w Q h k n pc' Ls st) : G w Q h k n pc Ls st :=
  g.adv fun T locs X _ t r => XS.goto X.here C.ex rfl (pc0 := pc) rfl (C.dec hd) ho hp r
theorem g_ifY (C : Cx w l Z own bytes mx rt nm rm n0) {cd : ClassFile.Cond} {o : Int} {x : Int32} (hd : decode bytes pc = .ok (.ifCond cd o, 3)) (hs : st = .int x :: rest) (hc : if_icmp.holds cd x 0 = true) (ho : 0 ≤ (pc : Int) + o) (hp : ((pc : Int) + o).toNat = pc') (g : G w Q h k n pc' Ls rest) : G w Q h k n pc Ls st :=
  g.adv fun T locs X _ t r => XS.ifYes X.here C.ex rfl (pc0 := pc) rfl (C.dec hd) hs ((if0 _ _).trans hc) ho hp r
theorem g_ifN (C : Cx w l Z own bytes mx rt nm rm n0) {cd : ClassFile.Cond} {o : Int} {x : Int32} (hd : decode bytes pc = .ok (.ifCond cd o, 3)) (hs : st = .int x :: rest) (hc : if_icmp.holds cd x 0 = false) (hp : pc + 3 = pc') (g : G w Q h k n pc' Ls rest) : G w Q h k n pc Ls st := by
  subst hp; exact g.adv fun T locs X _ t r => XS.ifNo X.here C.ex rfl (C.dec hd) hs ((if0 _ _).trans hc) r
theorem g_icY (C : Cx w l Z own bytes mx rt nm rm n0) {cd : ClassFile.Cond} {o : Int} {x y : Int32} (hd : decode bytes pc = .ok (.if_icmp cd o, 3)) (hs : st = .int y :: .int x :: rest) (hc : if_icmp.holds cd x y = true) (ho : 0 ≤ (pc : Int) + o) (hp : ((pc : Int) + o).toNat = pc') (g : G w Q h k n pc' Ls rest) : G w Q h k n pc Ls st :=
  g.adv fun T locs X _ t r => XS.icmpYes X.here C.ex rfl (pc0 := pc) rfl (C.dec hd) hs hc ho hp r
theorem g_icN (C : Cx w l Z own bytes mx rt nm rm n0) {cd : ClassFile.Cond} {o : Int} {x y : Int32} (hd : decode bytes pc = .ok (.if_icmp cd o, 3)) (hs : st = .int y :: .int x :: rest) (hc : if_icmp.holds cd x y = false) (hp : pc + 3 = pc') (g : G w Q h k n pc' Ls rest) : G w Q h k n pc Ls st := by
  subst hp; exact g.adv fun T locs X _ t r => XS.icmpNo X.here C.ex rfl (C.dec hd) hs hc r
/-- what a branch says, in plain words -/
def says (cd : ClassFile.Cond) (x y : Int32) : Prop := match cd with | .lt => x < y | .ge => ¬ x < y | .gt => y < x | .le => ¬ y < x | .eq => x = y | .ne => ¬ x = y
theorem says_t {cd : ClassFile.Cond} {x y : Int32} (q : says cd x y) : if_icmp.holds cd x y = true := by
  cases cd
  · exact (teq q).1
  · exact (feq q).2
  · exact (tlt q).1
  · exact (flt q).2.1
  · exact (tlt q).2.2.1
  · exact (flt q).2.2.2
theorem says_f {cd : ClassFile.Cond} {x y : Int32} (q : ¬ says cd x y) : if_icmp.holds cd x y = false := by
  cases cd
  · exact (feq q).1
  · exact (teq (Decidable.not_not.mp q)).2
  · exact (flt q).1
  · exact (tlt (Decidable.not_not.mp q)).2.1
  · exact (flt q).2.2.1
  · exact (tlt (Decidable.not_not.mp q)).2.2.2
theorem g_icB (C : Cx w l Z own bytes mx rt nm rm n0) {cd : ClassFile.Cond} {o : Int} {x y : Int32} {pcT : Nat} (hd : decode bytes pc = .ok (.if_icmp cd o, 3)) (hs : st = .int y :: .int x :: rest) (ho : 0 ≤ (pc : Int) + o) (hT : ((pc : Int) + o).toNat = pcT) (hp : pc + 3 = pc') (gy : says cd x y → G w Q h k n pcT Ls rest) (gn : ¬ says cd x y → G w Q h k n pc' Ls rest) : G w Q h k n pc Ls st := by
  by_cases q : says cd x y
  · exact g_icY C hd hs (says_t q) ho hT (gy q)
  · exact g_icN C hd hs (says_f q) hp (gn q)
theorem g_ifB (C : Cx w l Z own bytes mx rt nm rm n0) {cd : ClassFile.Cond} {o : Int} {x : Int32} {pcT : Nat} (hd : decode bytes pc = .ok (.ifCond cd o, 3)) (hs : st = .int x :: rest) (ho : 0 ≤ (pc : Int) + o) (hT : ((pc : Int) + o).toNat = pcT) (hp : pc + 3 = pc') (gy : says cd x 0 → G w Q h k n pcT Ls rest) (gn : ¬ says cd x 0 → G w Q h k n pc' Ls rest) : G w Q h k n pc Ls st := by
  by_cases q : says cd x 0
  · exact g_ifY C hd hs (says_t q) ho hT (gy q)
  · exact g_ifN C hd hs (says_f q) hp (gn q)
theorem g_ifnullY (C : Cx w l Z own bytes mx rt nm rm n0) {o : Int} (hd : decode bytes pc = .ok (.ifnull o, 3)) (hs : st = .null :: rest) (ho : 0 ≤ (pc : Int) + o) (hp : ((pc : Int) + o).toNat = pc') (g : G w Q h k n pc' Ls rest) : G w Q h k n pc Ls st :=
  g.adv fun T locs X _ t r => XS.ifnullYes X.here C.ex rfl (pc0 := pc) rfl (C.dec hd) hs ho hp r
theorem g_ifnullN (C : Cx w l Z own bytes mx rt nm rm n0) {o : Int} {b : Addr} (hd : decode bytes pc = .ok (.ifnull o, 3)) (hs : st = .ref b :: rest) (hp : pc + 3 = pc') (g : G w Q h k n pc' Ls rest) : G w Q h k n pc Ls st := by
  subst hp; exact g.adv fun T locs X _ t r => XS.ifnullNo X.here C.ex rfl (C.dec hd) hs r
theorem g_ifnonnullY (C : Cx w l Z own bytes mx rt nm rm n0) {o : Int} {b : Addr} (hd : decode bytes pc = .ok (.ifnonnull o, 3)) (hs : st = .ref b :: rest) (ho : 0 ≤ (pc : Int) + o) (hp : ((pc : Int) + o).toNat = pc') (g : G w Q h k n pc' Ls rest) : G w Q h k n pc Ls st :=
  g.adv fun T locs X _ t r => XS.ifnonnullYes X.here C.ex rfl (pc0 := pc) rfl (C.dec hd) hs ho hp r
theorem g_ifnonnullN (C : Cx w l Z own bytes mx rt nm rm n0) {o : Int} (hd : decode bytes pc = .ok (.ifnonnull o, 3)) (hs : st = .null :: rest) (hp : pc + 3 = pc') (g : G w Q h k n pc' Ls rest) : G w Q h k n pc Ls st := by
  subst hp; exact g.adv fun T locs X _ t r => XS.ifnonnullNo X.here C.ex rfl (C.dec hd) hs r
theorem g_acmp (C : Cx w l Z own bytes mx rt nm rm n0) {cd : ACond} {o : Int} {x y : Value} {same : Bool} (hd : decode bytes pc = .ok (.if_acmp cd o, 3)) (hs : st = y :: x :: rest) (h1 : x.isRef = true) (h2 : y.isRef = true) (hq : decide (x = y) = same) (ho : 0 ≤ (pc : Int) + o) (hp : pc' = if acV cd same = true then ((pc : Int) + o).toNat else pc + 3) (g : G w Q h k n pc' Ls rest) : G w Q h k n pc Ls st :=
  g.adv fun T locs X _ t r => Jvm.RoadKit.acmp (g := mkF w.m pc Ls st) X C.ex rfl h1 h2 (pc0 := pc) rfl (C.dec hd) hs hq ho hp r
theorem g_tsw (C : Cx w l Z own bytes mx rt nm rm n0) {df lo hi : Int} {offs : Array Int} {len : Nat} {o : Int} {i : Int32} (hd : decode bytes pc = .ok (.tableswitch df lo hi offs, len)) (hs : st = .int i :: rest) (hin : ¬ (i.toInt < lo ∨ i.toInt > hi)) (hoff : offs[(i.toInt - lo).toNat]? = some o) (ho : 0 ≤ (pc : Int) + o) (hp : ((pc : Int) + o).toNat = pc') (g : G w Q h k n pc' Ls rest) : G w Q h k n pc Ls st :=
  g.adv fun T locs X _ t r => XS.tswIn X.here C.ex rfl (pc0 := pc) rfl (C.dec hd) hs hin hoff ho hp r
theorem g_tswOut (C : Cx w l Z own bytes mx rt nm rm n0) {df lo hi : Int} {offs : Array Int} {len : Nat} {i : Int32} (hd : decode bytes pc = .ok (.tableswitch df lo hi offs, len)) (hs : st = .int i :: rest) (hin : i.toInt < lo ∨ i.toInt > hi) (ho : 0 ≤ (pc : Int) + df) (hp : ((pc : Int) + df).toNat = pc') (g : G w Q h k n pc' Ls rest) : G w Q h k n pc Ls st :=
  g.adv fun T locs X _ t r => XS.tswOut X.here C.ex rfl (pc0 := pc) rfl (C.dec hd) hs hin ho hp r
/-! the heap and the tables -/
theorem g_getF (C : Cx w l Z own bytes mx rt nm rm n0) {R0 O f d : String} {i : Nat} {a : Addr} {v : Value} (hw : (Jvm.Cond.fieldLink own i R0 f d).before a0 Z = true) (via : Via Z R0 O f d) (hd : decode bytes pc = .ok (.getfield i, 3)) (hs : st = .ref a :: rest) (F : Fld Z h a O f d v) (hp : pc + 3 = pc') (g : G w Q h k n pc' Ls (v :: rest)) : G w Q h k n pc Ls st := by
  subst hp; intro T locs X eT N
  obtain ⟨T', X', e', s'⟩ := getF X C.ex C.hZ C.ow (host := "") (Or.inl hw) via eT F (g := mkF w.m pc Ls st) rfl hs (C.dec hd)
  exact G.to X' e' N s' g
theorem g_getFN (C : Cx w l Z own bytes mx rt nm rm n0) {R0 O f d host : String} {i : Nat} {a : Addr} {v : Value} (hw : (Jvm.Cond.fieldLinkNest own i R0 f d host).before a0 Z = true) (via : Via Z R0 O f d) (hd : decode bytes pc = .ok (.getfield i, 3)) (hs : st = .ref a :: rest) (F : Fld Z h a O f d v) (hp : pc + 3 = pc') (g : G w Q h k n pc' Ls (v :: rest)) : G w Q h k n pc Ls st := by
  subst hp; intro T locs X eT N
  obtain ⟨T', X', e', s'⟩ := getF X C.ex C.hZ C.ow (Or.inr hw) via eT F (g := mkF w.m pc Ls st) rfl hs (C.dec hd)
  exact G.to X' e' N s' g
theorem g_getS (C : Cx w l Z own bytes mx rt nm rm n0) {R0 O f d : String} {i : Nat} {v : Value} (hw : (Jvm.Cond.fieldLink own i R0 f d).before a0 Z = true) (via : Via Z R0 O f d) (hd : decode bytes pc = .ok (.getstatic i, 3)) (F : Sta Z h O f d v) (hp : pc + 3 = pc') (g : G w Q h k n pc' Ls (v :: st)) : G w Q h k n pc Ls st := by
  subst hp; intro T locs X eT N
  obtain ⟨T', X', e', s'⟩ := getS2 X C.ex C.hZ C.ow (host := "") (Or.inl hw) via eT F (g := mkF w.m pc Ls st) rfl (C.dec hd)
  exact G.to X' e' N s' g
theorem g_getSN (C : Cx w l Z own bytes mx rt nm rm n0) {R0 O f d host : String} {i : Nat} {v : Value} (hw : (Jvm.Cond.fieldLinkNest own i R0 f d host).before a0 Z = true) (via : Via Z R0 O f d) (hd : decode bytes pc = .ok (.getstatic i, 3)) (F : Sta Z h O f d v) (hp : pc + 3 = pc') (g : G w Q h k n pc' Ls (v :: st)) : G w Q h k n pc Ls st := by
  subst hp; intro T locs X eT N
  obtain ⟨T', X', e', s'⟩ := getS2 X C.ex C.hZ C.ow (Or.inr hw) via eT F (g := mkF w.m pc Ls st) rfl (C.dec hd)
  exact G.to X' e' N s' g
theorem fr_snoc {L : List Loc} {a : Addr} {sl k : Nat} (N : Fr k L) (q : k ≤ a) : Fr k (L ++ [⟨a, sl⟩]) := N.app fun y hy => by cases List.mem_singleton.mp hy; exact q
theorem g_putF (C : Cx w l Z own bytes mx rt nm rm n0) {R0 O f d K : String} {i kk : Nat} {ty : FieldType} {a : Addr} {v old : Value} (hw : (Jvm.Cond.fieldLink own i R0 f d).before a0 Z = true) (via : Via Z R0 O f d) (hd : decode bytes pc = .ok (.putfield i, 3)) (hs : st = v :: .ref a :: rest) (F : Fld Z h a O f d old) (E : Exa Z h a K) (La : (Jvm.Cond.lays K O f d).before a0 Z = true ∨ ((Jvm.Cond.laysFinal K O f d).before a0 Z = true ∧ own = O ∧ nm = "<init>")) (wi : (Jvm.Cond.instantiable K kk).before a0 Z = true) (hty : parseFieldDescriptor d = some ty) (hn : narrow ty v = v) (hf : fits ty v = true) (ge : n0 ≤ a) (hp : pc + 3 = pc')
    (g : ∀ h', Wr h h' a (Jvm.RoadKit.slotOf Z O f d) v → G w Q h' k n pc' Ls rest) : G w Q h k n pc Ls st := by
  subst hp; intro T locs X eT N
  obtain ⟨T', h', X', e', W, s'⟩ := putF X C.ex C.hZ C.ow (host := "") (Or.inl hw) via eT F E (La.imp id fun q => ⟨q.1, q.2.1, C.mn.trans q.2.2⟩) wi hty hn hf (g := mkF w.m pc Ls st) rfl hs (C.dec hd)
  exact G.to X' e' (fr_snoc N (C.nn ▸ ge)) s' (g h' W)
theorem g_putFN (C : Cx w l Z own bytes mx rt nm rm n0) {R0 O f d K : String} {i kk : Nat} {ty : FieldType} {a : Addr} {v v' old : Value} (hw : (Jvm.Cond.fieldLink own i R0 f d).before a0 Z = true) (via : Via Z R0 O f d) (hd : decode bytes pc = .ok (.putfield i, 3)) (hs : st = v :: .ref a :: rest) (F : Fld Z h a O f d old) (E : Exa Z h a K) (La : (Jvm.Cond.lays K O f d).before a0 Z = true ∨ ((Jvm.Cond.laysFinal K O f d).before a0 Z = true ∧ own = O ∧ nm = "<init>")) (wi : (Jvm.Cond.instantiable K kk).before a0 Z = true) (hty : parseFieldDescriptor d = some ty) (hn : narrow ty v = v') (hf : fits ty v' = true) (ge : n0 ≤ a) (hp : pc + 3 = pc')
    (g : ∀ h', Wr h h' a (Jvm.RoadKit.slotOf Z O f d) v' → G w Q h' k n pc' Ls rest) : G w Q h k n pc Ls st := by
  subst hp; intro T locs X eT N
  obtain ⟨T', h', X', e', W, s'⟩ := putFN X C.ex C.hZ C.ow hw via eT F E (La.imp id fun q => ⟨q.1, q.2.1, C.mn.trans q.2.2⟩) wi hty hn hf (g := mkF w.m pc Ls st) rfl hs (C.dec hd)
  exact G.to X' e' (fr_snoc N (C.nn ▸ ge)) s' (g h' W)
theorem g_new (C : Cx w l Z own bytes mx rt nm rm n0) {K : String} {i ns : Nat} (hw : (Jvm.Cond.classLink own i K).before a0 Z = true) (wi : (Jvm.Cond.instantiable K ns).before a0 Z = true) (wz : (Jvm.Cond.initialized K).before a0 Z = true) (hd : decode bytes pc = .ok (.new i, 3)) (hc : k' ≤ rm.cells) (hl : n' ≤ rm.slots) (ek : k + 1 = k') (en : n + ns = n') (hp : pc + 3 = pc')
    (g : ∀ h' a, a = h.size → Ext h h' → Exa Z h' a K → (∀ {O f d : String} {ty : FieldType}, Laid Z a0 K O f d → parseFieldDescriptor d = some ty → Fld Z h' a O f d (defaultValue ty)) → G w Q h' k' n' pc' Ls (.ref a :: st)) : G w Q h k n pc Ls st := by
  subst hp ek en; intro T locs X eT N
  obtain ⟨T', h', X', e', E, A, D, -, s'⟩ := newO X C.ex C.hZ C.ow hw wi wz eT (g := mkF w.m pc Ls st) rfl (C.dec hd) (by rw [C.ro]; exact hc) (by rw [C.ro]; exact hl)
  exact G.to X' e' N s' (g h' _ rfl E A D)
theorem g_initO (C : Cx w l Z own bytes mx rt nm rm n0) {i : Nat} {a : Addr} (hw : (Jvm.Cond.methodLink own i Lib.objectInit).before a0 Z = true) (w2 : (Jvm.Cond.instanceMethod Lib.objectInit).before a0 Z = true) (w3 : (Jvm.Cond.code Lib.objectInit ⟨#[0xb1]⟩ 1 none).before a0 Z = true) (hd : decode bytes pc = .ok (.invokespecial i, 3)) (hs : st = .ref a :: rest) (hz : Ls.size = mx) (hf : 1 ≤ rm.frames) (hl : (rest.map fun v => v.category).sum + 12 ≤ rm.locals) (hp : pc + 3 = pc') (g : G w Q h k n pc' Ls rest) : G w Q h k n pc Ls st := by
  subst hp; intro T locs X eT N
  obtain ⟨T', X', e', s'⟩ := initO X C.ex C.hZ C.ow hw w2 w3 eT (g := mkF w.m pc Ls st) rfl (hz.trans C.ml.symm) hs (C.dec hd) (by rw [C.ro]; exact hf) (W := (rest.map fun v => v.category).sum) (by show 2 * 0 + _ ≤ _; omega) (by rw [C.ro]; exact hl)
  exact G.to X' e' N s' g
theorem g_cast (C : Cx w l Z own bytes mx rt nm rm n0) {K : String} {i : Nat} {a : Addr} (hw : (Jvm.Cond.classLink own i K).before a0 Z = true) (hd : decode bytes pc = .ok (.checkcast i, 3)) (hs : st = .ref a :: rest) (F : Ins Z h a K true) (hp : pc + 3 = pc') (g : G w Q h k n pc' Ls st) : G w Q h k n pc Ls st := by
  subst hp; intro T locs X eT N
  obtain ⟨T', X', e', s'⟩ := castY X C.ex C.hZ C.ow hw eT F (g := mkF w.m pc Ls st) rfl hs (C.dec hd)
  exact G.to X' e' N s' g
theorem g_instY (C : Cx w l Z own bytes mx rt nm rm n0) {K : String} {i : Nat} {a : Addr} (hw : (Jvm.Cond.classLink own i K).before a0 Z = true) (hd : decode bytes pc = .ok (.instanceof i, 3)) (hs : st = .ref a :: rest) (F : Ins Z h a K true) (hp : pc + 3 = pc') (g : G w Q h k n pc' Ls (.int 1 :: rest)) : G w Q h k n pc Ls st := by
  subst hp; intro T locs X eT N
  obtain ⟨T', X', e', s'⟩ := instY X C.ex C.hZ C.ow hw eT F (g := mkF w.m pc Ls st) rfl hs (C.dec hd)
  exact G.to X' e' N s' g
theorem g_instN (C : Cx w l Z own bytes mx rt nm rm n0) {K B : String} {i : Nat} {a : Addr} (hw : (Jvm.Cond.classLink own i K).before a0 Z = true) (hd : decode bytes pc = .ok (.instanceof i, 3)) (hs : st = .ref a :: rest) (E : Exa Z h a B) (F : ∃ c t, Z.vm.findClass B = some c ∧ Z.vm.findClass K = some t ∧ Z.vm.assignable c t = false) (hp : pc + 3 = pc') (g : G w Q h k n pc' Ls (.int 0 :: rest)) : G w Q h k n pc Ls st := by
  subst hp; intro T locs X eT N
  obtain ⟨T', X', e', s'⟩ := instNo X C.ex C.hZ C.ow hw eT E F (g := mkF w.m pc Ls st) rfl hs (C.dec hd)
  exact G.to X' e' N s' g
theorem g_newP (C : Cx w l Z own bytes mx rt nm rm n0) {aty : ArrayType} {z : Int32} {cap : Nat} (hw : (Jvm.Cond.arrayClass (newarray.typeOf aty)).before a0 Z = true) (hd : decode bytes pc = .ok (.newarray aty, 2)) (hs : st = .int z :: rest) (hn : ¬ z < 0) (hcap : z.toNatClampNeg ≤ cap) (hb' : cap * 8 ≤ 536870912) (hc : k' ≤ rm.cells) (hl : n' ≤ rm.slots) (ek : k + 1 = k') (en : n + cap = n') (hp : pc + 2 = pc')
    (g : ∀ h' a kA, a = h.size → Ext h h' → Arv Z h' a kA (newarray.typeOf aty) z [] (defaultValue (newarray.typeOf aty)) → G w Q h' k' n' pc' Ls (.ref a :: rest)) : G w Q h k n pc Ls st := by
  subst hp ek en; intro T locs X eT N
  obtain ⟨T', h', kA, X', e', E, A, s'⟩ := newP X C.ex C.hZ hw eT (g := mkF w.m pc Ls st) rfl (C.dec hd) hs hn hcap hb' (by rw [C.ro]; exact hc) (by rw [C.ro]; exact hl)
  exact G.to X' e' N s' (g h' _ kA rfl E (Arv.new A hn))
theorem g_newR (C : Cx w l Z own bytes mx rt nm rm n0) {K : String} {i : Nat} {z : Int32} {cap : Nat} (hw : (Jvm.Cond.classLink own i K).before a0 Z = true) (w2 : (Jvm.Cond.arrayOver (.object K)).before a0 Z = true) (hd : decode bytes pc = .ok (.anewarray i, 3)) (hs : st = .int z :: rest) (hn : ¬ z < 0) (hcap : z.toNatClampNeg ≤ cap) (hb' : cap * 8 ≤ 536870912) (hc : k' ≤ rm.cells) (hl : n' ≤ rm.slots) (ek : k + 1 = k') (en : n + cap = n') (hp : pc + 3 = pc')
    (g : ∀ h' a kA, a = h.size → Ext h h' → Arv Z h' a kA (.object K) z [] .null → Ovr Z kA K → G w Q h' k' n' pc' Ls (.ref a :: rest)) : G w Q h k n pc Ls st := by
  subst hp ek en; intro T locs X eT N
  obtain ⟨T', h', kA, X', e', E, A, O, s'⟩ := newR X C.ex C.hZ C.ow hw w2 eT (g := mkF w.m pc Ls st) rfl (C.dec hd) hs hn hcap hb' (by rw [C.ro]; exact hc) (by rw [C.ro]; exact hl)
  exact G.to X' e' N s' (g h' _ kA rfl E (Arv.new A hn) O)
theorem g_newPE (C : Cx w l Z own bytes mx rt nm rm n0) {aty : ArrayType} {z : Int32} {cap : Nat} {ad : String} (hw : (Jvm.Cond.arrayClass (newarray.typeOf aty)).before a0 Z = true) (had : "[" ++ (newarray.typeOf aty).toString = ad) (hd : decode bytes pc = .ok (.newarray aty, 2)) (hs : st = .int z :: rest) (hn : ¬ z < 0) (hcap : z.toNatClampNeg ≤ cap) (hb' : cap * 8 ≤ 536870912) (hc : k' ≤ rm.cells) (hl : n' ≤ rm.slots) (ek : k + 1 = k') (en : n + cap = n') (hp : pc + 2 = pc')
    (g : ∀ h' a kA, a = h.size → Ext h h' → Arv Z h' a kA (newarray.typeOf aty) z [] (defaultValue (newarray.typeOf aty)) → Exa Z h' a ad → G w Q h' k' n' pc' Ls (.ref a :: rest)) : G w Q h k n pc Ls st := by
  subst hp ek en; intro T locs X eT N
  obtain ⟨T', h', kA, X', e', E, A, B, s'⟩ := newPE X C.ex C.hZ hw eT (g := mkF w.m pc Ls st) rfl (C.dec hd) hs hn hcap hb' (by rw [C.ro]; exact hc) (by rw [C.ro]; exact hl) had
  exact G.to X' e' N s' (g h' _ kA rfl E (Arv.new A hn) B)
theorem g_newRA (C : Cx w l Z own bytes mx rt nm rm n0) {K ad : String} {i : Nat} {ty : FieldType} {z : Int32} {cap : Nat} (hC : (FieldType.array ty).toString = K) (had : "[" ++ K = ad) (hw : (Jvm.Cond.classLink own i K).before a0 Z = true) (w2 : (Jvm.Cond.arrayOver (.array ty)).before a0 Z = true) (hd : decode bytes pc = .ok (.anewarray i, 3)) (hs : st = .int z :: rest) (hn : ¬ z < 0) (hcap : z.toNatClampNeg ≤ cap) (hb' : cap * 8 ≤ 536870912) (hc : k' ≤ rm.cells) (hl : n' ≤ rm.slots) (ek : k + 1 = k') (en : n + cap = n') (hp : pc + 3 = pc')
    (g : ∀ h' a kA, a = h.size → Ext h h' → Arv Z h' a kA (.array ty) z [] .null → Exa Z h' a ad → OvrA Z kA ty K → G w Q h' k' n' pc' Ls (.ref a :: rest)) : G w Q h k n pc Ls st := by
  subst hp ek en; intro T locs X eT N
  obtain ⟨T', h', kA, X', e', E, A, B, O, s'⟩ := newRA X C.ex C.hZ C.ow hC hw w2 eT (g := mkF w.m pc Ls st) rfl (C.dec hd) hs hn hcap hb' (by rw [C.ro]; exact hc) (by rw [C.ro]; exact hl) had
  exact G.to X' e' N s' (g h' _ kA rfl E (Arv.new A hn) B O)
theorem stoA {h : Heap} {a y : Addr} {kA : ClassId} {t0 ty : FieldType} {K : String} {z : Int32} {vs : List Value} {dv : Value} (A : Arv Z h a kA t0 z vs dv) (O : OvrA Z kA ty K) (E : Exa Z h y K) : Sto Z h a (.ref y) := by
  obtain ⟨c, Ar, q, -⟩ := A; exact Sto.ofVA Ar q O (Ins.self E)
theorem stoR {h : Heap} {a y : Addr} {kA : ClassId} {t0 : FieldType} {K : String} {z : Int32} {vs : List Value} {dv : Value} (A : Arv Z h a kA t0 z vs dv) (O : Ovr Z kA K) (I : Ins Z h y K true) : Sto Z h a (.ref y) := by
  obtain ⟨c, Ar, q, -⟩ := A; exact Sto.ofV Ar q O I
theorem g_cpA (C : Cx w l Z own bytes mx rt nm rm n0) {i : Nat} {a b : Addr} {k1 k2 : ClassId} {ty ty' : FieldType} {z z' sp dp nn : Int32} {vs vd us : List Value} {dv dd : Value}
    (w1 : (Jvm.Cond.methodLink own i Jvm.Stand.acN).before a0 Z = true) (w2 : (Jvm.Cond.native Jvm.Stand.acN).before a0 Z = true) (w3 : (Jvm.Cond.static Jvm.Stand.acN).before a0 Z = true) (w4 : (Jvm.Cond.initialized "java/lang/System").before a0 Z = true)
    (hd : decode bytes pc = .ok (.invokestatic i, 3)) (hs : st = .int nn :: .int dp :: .ref b :: .int sp :: .ref a :: rest) (hz : Ls.size = mx) (A : Arv Z h a k1 ty z vs dv) (B : Arv Z h b k2 ty' z' vd dd) (hty : (ty = ty' ∧ refKind ty = false) ∨ (refKind ty = true ∧ refKind ty' = true ∧ StoL Z h b us))
    (h1 : ¬ sp < 0) (h2 : ¬ dp < 0) (h3 : ¬ nn < 0) (h4 : sp.toNatClampNeg + nn.toNatClampNeg ≤ z.toNatClampNeg) (h5 : dp.toNatClampNeg + nn.toNatClampNeg ≤ z'.toNatClampNeg) (hus : us = (List.range nn.toNatClampNeg).map fun i => vs.getD (sp.toNatClampNeg + i) dv) (hlen : dp.toNatClampNeg + nn.toNatClampNeg ≤ vd.length) (ge : n0 ≤ b)
    (hf : 1 ≤ rm.frames) (hlo : (rest.map fun v => v.category).sum + (nativeFrameWords "java/lang/System" "arraycopy" 5 + 11) ≤ rm.locals) (hp : pc + 3 = pc')
    (g : ∀ h', Keep h h' [b] → Arv Z h' b k2 ty' z' (vd.take dp.toNatClampNeg ++ us ++ vd.drop (dp.toNatClampNeg + nn.toNatClampNeg)) dd → G w Q h' k n pc' Ls rest) : G w Q h k n pc Ls st := by
  subst hp; intro T locs X eT N
  obtain ⟨T', h', L, X', e', N', K, A', s'⟩ := cpA X C.ex C.hZ C.ow w1 w2 w3 w4 eT A B hty h1 h2 h3 h4 h5 hus hlen (n0 := w.n0) N (C.nn ▸ ge) (g := mkF w.m pc Ls st) rfl (hz.trans C.ml.symm) hs (C.dec hd) (by rw [C.ro]; exact hf) (W := (rest.map fun v => v.category).sum) (by show 2 * 0 + _ ≤ _; omega) (by rw [C.ro]; exact hlo)
  exact G.to X' e' N' s' (g h' K A')
/-! arrays by their values: an array fact (Arv) with a list of all its values -/
theorem arv_inb {a : Addr} {kA : ClassId} {ty : FieldType} {z j : Int32} {vs : List Value} {dv : Value} (A : Arv Z h a kA ty z vs dv) (q1 : ¬ j < 0) (q2 : j < z) : ∃ cl, Arr Z h a cl ty ∧ ¬ (j < 0 ∨ cl.slots.size ≤ j.toNatClampNeg) ∧ cl.slots[j.toNatClampNeg]? = some (vs.getD j.toNatClampNeg dv) := by
  obtain ⟨cl, Ar, -, S, -, H, -⟩ := A
  have hi := inb_of S ⟨q1, q2⟩
  exact ⟨cl, Ar, hi, H.at hi rfl⟩
theorem arv_put {h' : Heap} {a : Addr} {kA : ClassId} {ty : FieldType} {z j : Int32} {vs : List Value} {dv v : Value} (A : Arv Z h a kA ty z vs dv) (hv : fits ty v = true) (W : Wr h h' a j.toNatClampNeg v) {i : Nat} (hj : j.toNatClampNeg = i) (hi : i < vs.length) : Arv Z h' a kA ty z (vs.set i v) dv := by
  obtain ⟨cl, Ar, q1, S, q3, H, F⟩ := A
  exact Arv.set Ar q1 S q3 H F hv W i hj hi

theorem g_iaload (C : Cx w l Z own bytes mx rt nm rm n0) {a : Addr} {kA : ClassId} {z j : Int32} {vs : List Value} {dv : Value} {x : Int32} (hd : decode bytes pc = .ok (.iaload, 1)) (hs : st = .int j :: .ref a :: rest) (A : Arv Z h a kA .int z vs dv) (q1 : ¬ j < 0) (q2 : j < z) (hv : vs.getD j.toNatClampNeg dv = .int x) (hp : pc + 1 = pc') (g : G w Q h k n pc' Ls (.int x :: rest)) : G w Q h k n pc Ls st := by
  subst hp; intro T locs X eT N
  obtain ⟨cl, Ar, hi, hg⟩ := arv_inb A q1 q2
  rw [hv] at hg
  exact G.to X eT N (fun t r => X.iaload C.ex (j := j) (v := .int x) (by rw [eT]; exact Ar.1) (State.isArrayOf_alike C.hZ.alike Ar.2.1) Ar.2.2 hi hg (g := mkF w.m pc Ls st) rfl hs (C.dec hd) _ r) g
theorem g_laload (C : Cx w l Z own bytes mx rt nm rm n0) {a : Addr} {kA : ClassId} {z j : Int32} {vs : List Value} {dv : Value} {x : Int64} (hd : decode bytes pc = .ok (.laload, 1)) (hs : st = .int j :: .ref a :: rest) (A : Arv Z h a kA .long z vs dv) (q1 : ¬ j < 0) (q2 : j < z) (hv : vs.getD j.toNatClampNeg dv = .long x) (hp : pc + 1 = pc') (g : G w Q h k n pc' Ls (.long x :: rest)) : G w Q h k n pc Ls st := by
  subst hp; intro T locs X eT N
  obtain ⟨cl, Ar, hi, hg⟩ := arv_inb A q1 q2
  rw [hv] at hg
  exact G.to X eT N (fun t r => X.laload C.ex (j := j) (v := .long x) (by rw [eT]; exact Ar.1) (State.isArrayOf_alike C.hZ.alike Ar.2.1) Ar.2.2 hi hg (g := mkF w.m pc Ls st) rfl hs (C.dec hd) _ r) g
theorem g_baload (C : Cx w l Z own bytes mx rt nm rm n0) {a : Addr} {kA : ClassId} {z j : Int32} {vs : List Value} {dv : Value} {x : Int32} (hd : decode bytes pc = .ok (.baload, 1)) (hs : st = .int j :: .ref a :: rest) (A : Arv Z h a kA .byte z vs dv) (q1 : ¬ j < 0) (q2 : j < z) (hv : vs.getD j.toNatClampNeg dv = .int x) (hp : pc + 1 = pc') (g : G w Q h k n pc' Ls (.int x :: rest)) : G w Q h k n pc Ls st := by
  subst hp; intro T locs X eT N
  obtain ⟨cl, Ar, hi, hg⟩ := arv_inb A q1 q2
  rw [hv] at hg
  exact G.to X eT N (fun t r => X.baloadBytes C.ex (j := j) (v := .int x) (by rw [eT]; exact Ar.1) (State.isArrayOf_alike C.hZ.alike Ar.2.1) Ar.2.2 hi hg (g := mkF w.m pc Ls st) rfl hs (C.dec hd) _ r) g
theorem g_aaload (C : Cx w l Z own bytes mx rt nm rm n0) {a : Addr} {kA : ClassId} {ty : FieldType} {z j : Int32} {vs : List Value} {dv x : Value} (hd : decode bytes pc = .ok (.aaload, 1)) (hs : st = .int j :: .ref a :: rest) (A : Arv Z h a kA ty z vs dv) (hty : ty.isReference = true) (q1 : ¬ j < 0) (q2 : j < z) (hv : vs.getD j.toNatClampNeg dv = x) (hp : pc + 1 = pc') (g : G w Q h k n pc' Ls (x :: rest)) : G w Q h k n pc Ls st := by
  subst hp; intro T locs X eT N
  obtain ⟨cl, Ar, hi, hg⟩ := arv_inb A q1 q2
  rw [hv] at hg
  exact G.to X eT N (fun t r => X.aaload C.ex (j := j) (v := x) (by rw [eT]; exact Ar.1) (State.isArrayOf_alike C.hZ.alike Ar.2.1) hty Ar.2.2 hi hg (g := mkF w.m pc Ls st) rfl hs (C.dec hd) _ r) g
theorem g_alen (C : Cx w l Z own bytes mx rt nm rm n0) {a : Addr} {kA : ClassId} {ty : FieldType} {z : Int32} {vs : List Value} {dv : Value} (hd : decode bytes pc = .ok (.arraylength, 1)) (hs : st = .ref a :: rest) (A : Arv Z h a kA ty z vs dv) (hp : pc + 1 = pc') (g : G w Q h k n pc' Ls (.int z :: rest)) : G w Q h k n pc Ls st := by
  subst hp; intro T locs X eT N
  obtain ⟨cl, Ar, -, S, q3, -, -⟩ := A
  exact G.to X eT N (fun t r => X.arraylength C.ex (by rw [eT]; exact Ar.1) (State.isArrayOf_alike C.hZ.alike Ar.2.1) (g := mkF w.m pc Ls st) rfl hs (C.dec hd) _ (by rw [len_of S q3]; exact r)) g

theorem g_iastore (C : Cx w l Z own bytes mx rt nm rm n0) {a : Addr} {kA : ClassId} {z j : Int32} {vs : List Value} {dv : Value} {x : Int32} (hd : decode bytes pc = .ok (.iastore, 1)) (hs : st = .int x :: .int j :: .ref a :: rest) (A : Arv Z h a kA .int z vs dv) (q1 : ¬ j < 0) (q2 : j < z) (ge : n0 ≤ a) (hp : pc + 1 = pc')
    (g : ∀ h', Wr h h' a j.toNatClampNeg (.int x) → G w Q h' k n pc' Ls rest) : G w Q h k n pc Ls st := by
  subst hp; intro T locs X eT N
  obtain ⟨cl, Ar, hi, -⟩ := arv_inb A q1 q2
  obtain ⟨T', h', X', e', W, s'⟩ := stI X C.ex C.hZ eT Ar (j := j) hi (g := mkF w.m pc Ls st) rfl hs (C.dec hd)
  exact G.to X' e' (fr_snoc N (C.nn ▸ ge)) s' (g h' W)
theorem g_lastore (C : Cx w l Z own bytes mx rt nm rm n0) {a : Addr} {kA : ClassId} {z j : Int32} {vs : List Value} {dv : Value} {x : Int64} (hd : decode bytes pc = .ok (.lastore, 1)) (hs : st = .long x :: .int j :: .ref a :: rest) (A : Arv Z h a kA .long z vs dv) (q1 : ¬ j < 0) (q2 : j < z) (ge : n0 ≤ a) (hp : pc + 1 = pc')
    (g : ∀ h', Wr h h' a j.toNatClampNeg (.long x) → G w Q h' k n pc' Ls rest) : G w Q h k n pc Ls st := by
  subst hp; intro T locs X eT N
  obtain ⟨cl, Ar, hi, -⟩ := arv_inb A q1 q2
  obtain ⟨T', h', X', e', W, s'⟩ := stJ X C.ex C.hZ eT Ar (j := j) hi (g := mkF w.m pc Ls st) rfl hs (C.dec hd)
  exact G.to X' e' (fr_snoc N (C.nn ▸ ge)) s' (g h' W)
theorem g_bastore (C : Cx w l Z own bytes mx rt nm rm n0) {a : Addr} {kA : ClassId} {z j : Int32} {vs : List Value} {dv : Value} {x : Int32} (hd : decode bytes pc = .ok (.bastore, 1)) (hs : st = .int x :: .int j :: .ref a :: rest) (A : Arv Z h a kA .byte z vs dv) (q1 : ¬ j < 0) (q2 : j < z) (ge : n0 ≤ a) (hp : pc + 1 = pc')
    (g : ∀ h', Wr h h' a j.toNatClampNeg (.int (nar .byte x)) → G w Q h' k n pc' Ls rest) : G w Q h k n pc Ls st := by
  subst hp; intro T locs X eT N
  obtain ⟨cl, Ar, hi, -⟩ := arv_inb A q1 q2
  obtain ⟨T', h', X', e', W, s'⟩ := stB X C.ex C.hZ eT Ar (j := j) hi (g := mkF w.m pc Ls st) rfl hs (C.dec hd)
  exact G.to X' e' (fr_snoc N (C.nn ▸ ge)) s' (g h' W)
theorem g_aastore (C : Cx w l Z own bytes mx rt nm rm n0) {a : Addr} {kA : ClassId} {ty : FieldType} {z j : Int32} {vs : List Value} {dv x : Value} (hd : decode bytes pc = .ok (.aastore, 1)) (hs : st = x :: .int j :: .ref a :: rest) (A : Arv Z h a kA ty z vs dv) (hty : ty.isReference = true) (F : Sto Z h a x) (q1 : ¬ j < 0) (q2 : j < z) (ge : n0 ≤ a) (hp : pc + 1 = pc')
    (g : ∀ h', Wr h h' a j.toNatClampNeg x → G w Q h' k n pc' Ls rest) : G w Q h k n pc Ls st := by
  subst hp; intro T locs X eT N
  obtain ⟨cl, Ar, hi, -⟩ := arv_inb A q1 q2
  obtain ⟨T', h', X', e', W, s'⟩ := stR X C.ex C.hZ eT Ar (j := j) hi hty F (g := mkF w.m pc Ls st) rfl hs (C.dec hd)
  exact G.to X' e' (fr_snoc N (C.nn ▸ ge)) s' (g h' W)
/-! returns -/
theorem g_ret (C : Cx w l Z own bytes mx (some t) nm rm n0) {v : Value} {i : Instr} (hd : decode bytes pc = .ok (i, 1)) (hs : st = v :: rest) (hn : narrow t v = v)
    (hi : (i = .ireturn ∧ (t = .int ∨ t = .boolean ∨ t = .byte ∨ t = .char ∨ t = .short) ∧ ∃ z, v = .int z) ∨ (i = .lreturn ∧ t = .long ∧ ∃ z, v = .long z) ∨ (i = .dreturn ∧ t = .double ∧ ∃ z, v = .double z) ∨ (i = .freturn ∧ t = .float ∧ ∃ z, v = .float z) ∨ (i = .areturn ∧ t.isReference = true ∧ v.isRef = true))
    (hk : k ≤ rm.cells) (hnn : n ≤ rm.slots) (q : Q (some v) h) : G w Q h k n pc Ls st := by
  subst hs; intro T locs X eT N
  obtain ⟨fs, hr, hrun, hended, hW, hsame⟩ := X.leave (v := some v) (fun h => by rw [C.ret] at h; cases h) C.lk
  exact ⟨_, _, retOut X C.ex C.ret hn hi (C.dec hd) hr, hrun, hended, _, locs, rfl, ⟨by show Q _ T.heap; rw [eT]; exact q, N⟩, ⟨_, rfl⟩, hW, hsame.mono (by rw [C.ro]; exact hk) (by rw [C.ro]; exact hnn)⟩
theorem g_ireturn (C : Cx w l Z own bytes mx (some .int) nm rm n0) {z : Int32} (hd : decode bytes pc = .ok (.ireturn, 1)) (hs : st = .int z :: rest) (hk : k ≤ rm.cells) (hnn : n ≤ rm.slots) (q : Q (some (.int z)) h) : G w Q h k n pc Ls st :=
  g_ret C hd hs rfl (Or.inl ⟨rfl, Or.inl rfl, z, rfl⟩) hk hnn q
theorem g_zreturn (C : Cx w l Z own bytes mx (some .boolean) nm rm n0) {z : Int32} (hd : decode bytes pc = .ok (.ireturn, 1)) (hs : st = .int z :: rest) (hn : narrow .boolean (.int z) = .int z) (hk : k ≤ rm.cells) (hnn : n ≤ rm.slots) (q : Q (some (.int z)) h) : G w Q h k n pc Ls st :=
  g_ret C hd hs hn (Or.inl ⟨rfl, Or.inr (Or.inl rfl), z, rfl⟩) hk hnn q
theorem g_breturn (C : Cx w l Z own bytes mx (some .byte) nm rm n0) {z : Int32} (hd : decode bytes pc = .ok (.ireturn, 1)) (hs : st = .int z :: rest) (hn : narrow .byte (.int z) = .int z) (hk : k ≤ rm.cells) (hnn : n ≤ rm.slots) (q : Q (some (.int z)) h) : G w Q h k n pc Ls st :=
  g_ret C hd hs hn (Or.inl ⟨rfl, Or.inr (Or.inr (Or.inl rfl)), z, rfl⟩) hk hnn q
theorem g_lreturn (C : Cx w l Z own bytes mx (some .long) nm rm n0) {z : Int64} (hd : decode bytes pc = .ok (.lreturn, 1)) (hs : st = .long z :: rest) (hk : k ≤ rm.cells) (hnn : n ≤ rm.slots) (q : Q (some (.long z)) h) : G w Q h k n pc Ls st :=
  g_ret C hd hs rfl (Or.inr (Or.inl ⟨rfl, rfl, z, rfl⟩)) hk hnn q
theorem g_areturn (C : Cx w l Z own bytes mx (some t) nm rm n0) {v : Value} (hd : decode bytes pc = .ok (.areturn, 1)) (hs : st = v :: rest) (ht : t.isReference = true) (hv : v.isRef = true) (hn : narrow t v = v) (hk : k ≤ rm.cells) (hnn : n ≤ rm.slots) (q : Q (some v) h) : G w Q h k n pc Ls st :=
  g_ret C hd hs hn (Or.inr (Or.inr (Or.inr (Or.inr ⟨rfl, ht, hv⟩)))) hk hnn q
theorem g_return (C : Cx w l Z own bytes mx none nm rm n0) (hd : decode bytes pc = .ok (.return_, 1)) (hs : st = []) (hk : k ≤ rm.cells) (hnn : n ≤ rm.slots) (q : Q none h) : G w Q h k n pc Ls st := by
  subst hs; intro T locs X eT N
  obtain ⟨fs, hr, hrun, hended, hW, hsame⟩ := X.leave (v := none) (fun _ => rfl) C.lk
  exact ⟨_, _, X.returnOut C.ex C.ret (C.dec hd) hr, hrun, hended, _, locs, rfl, ⟨by show Q _ T.heap; rw [eT]; exact q, N⟩, ⟨_, rfl⟩, hW, hsame.mono (by rw [C.ro]; exact hk) (by rw [C.ro]; exact hnn)⟩
/-! calls by the callee's contract -/
theorem g_fin {rm' : Room} {Q' : Option Value → Heap → Prop} {T : State} {locs : List Loc} {as : Array Value} {v : Option Value} {B : Pt} {A : Pt} (C : Cx w l Z own bytes mx rt nm rm n0) (hA : A.locs = locs ∧ A.cells = k ∧ A.slots = n)
    (X' : Stand w.p w.l w.e w.R w.s w.m w.args w.below w.meth w.c B.U B.locs B.cells B.slots) (hQ : ∃ L, (Q' v B.U.heap ∧ Fr n0 L) ∧ B.locs = A.locs ++ L ∧ B.cells = A.cells + rm'.cells ∧ B.slots = A.slots + rm'.slots) (N : Fr w.n0 locs)
    (g : ∀ v h', Q' v h' → G w Q h' (k + rm'.cells) (n + rm'.slots) pc' Ls (psh v rest)) (s' : ∀ t, Steps w.p.tables w.e w.below (B.U.setTop (mkF w.m pc' Ls (v.toList ++ rest))) t → Steps w.p.tables w.e w.below (T.setTop (mkF w.m pc Ls st)) t) : Ends w Q (T.setTop (mkF w.m pc Ls st)) := by
  obtain ⟨T', L', k', n'⟩ := B
  obtain ⟨L, ⟨hq, hL⟩, e1, e2, e3⟩ := hQ
  obtain ⟨a1, a2, a3⟩ := hA
  dsimp only [Pt.U, Pt.locs, Pt.cells, Pt.slots] at X' hq e1 e2 e3 s' a1 a2 a3
  subst a1 a2 a3 e1 e2 e3
  rw [psh_eq] at s'
  exact G.to X' rfl (N.app (C.nn ▸ hL)) s' (g v _ hq)
theorem g_callS (C : Cx w l Z own bytes mx rt nm rm n0) {y : MethodName} {i mL : Nat} {bs : ByteArray} {rt' : Option FieldType} {rm' : Room} {Q' : Option Value → Heap → Prop} {argsL : List Value} {ps : List FieldType} {r : Option FieldType}
    (w1 : (Jvm.Cond.methodLink own i y).before a0 Z = true) (w2 : (Jvm.Cond.static y).before a0 Z = true) (w3 : (Jvm.Cond.initialized y.cls).before a0 Z = true) (w4 : (Jvm.Cond.code y bs mL rt').before a0 Z = true) (hy : y.cls ≠ "java/lang/invoke/MethodHandle" ∧ y.cls ≠ "java/lang/invoke/VarHandle")
    (hd : decode bytes pc = .ok (.invokestatic i, 3)) (pd : parseMethodDescriptor y.desc = some ⟨ps, r⟩) (hlen : argsL.length = ps.length) (hst : st = argsL.reverse ++ rest) (hz : Ls.size = mx)
    (K : Con l Z y bs mL rt' rm' argsL.toArray h n0 Q') (hf : rm'.frames + 1 ≤ rm.frames) (hl : (rest.map fun v => v.category).sum + (mL + 11) + rm'.locals ≤ rm.locals) (hc : k' ≤ rm.cells) (hn : n' ≤ rm.slots) (ek : k + rm'.cells = k') (en : n + rm'.slots = n') (hp : pc + 3 = pc')
    (g : ∀ v h', Q' v h' → G w Q h' k' n' pc' Ls (psh v rest)) : G w Q h k n pc Ls st := by
  subst hp ek en; intro T locs X eT N
  have hl0 : w.l = l := C.1
  subst hl0
  obtain ⟨v, vm₁, B, -, X', hQ, s'⟩ := Jvm.LawKit.callS X C.ex C.ow (mvT C.hZ w1) (mvT C.hZ w2) (mvT C.hZ w3) (mvT C.hZ w4) hy (backOf (W := (rest.map fun v => v.category).sum) (Q := fun v h L => Q' v h ∧ Fr n0 L) (K []) C.hZ w4 w3 (by rw [C.ro]; exact hf) (by rw [C.ro]; exact hl)) (g := mkF w.m pc Ls st) rfl (hz.trans C.ml.symm) (argsL := argsL) (rest := rest) (lenOf pd hlen) hst (by show 2 * 0 + _ ≤ _; omega) (C.dec hd) (fun _ _ => ⟨rfl, eT, by rw [C.ro]; exact hc, by rw [C.ro]; exact hn⟩)
  exact g_fin (T := T) (as := argsL.toArray) (A := (⟨T.setVm vm₁, locs, k, n⟩ : Pt)) C ⟨rfl, rfl, rfl⟩ X' hQ N g s'
theorem g_special (C : Cx w l Z own bytes mx rt nm rm n0) {y : MethodName} {i mL : Nat} {bs : ByteArray} {rm' : Room} {Q' : Option Value → Heap → Prop} {a : Addr} {argsL : List Value} {ps : List FieldType} {r : Option FieldType}
    (w1 : (Jvm.Cond.methodLink own i y).before a0 Z = true) (w2 : (Jvm.Cond.instanceMethod y).before a0 Z = true) (w3 : (Jvm.Cond.initialized y.cls).before a0 Z = true) (w4 : (Jvm.Cond.code y bs mL none).before a0 Z = true) (hy : y.cls ≠ "java/lang/invoke/MethodHandle" ∧ y.cls ≠ "java/lang/invoke/VarHandle") (hy1 : y.name = "<init>")
    (hd : decode bytes pc = .ok (.invokespecial i, 3)) (pd : parseMethodDescriptor y.desc = some ⟨ps, r⟩) (hlen : argsL.length = ps.length) (hst : st = argsL.reverse ++ .ref a :: rest) (hz : Ls.size = mx)
    (K : Con l Z y bs mL none rm' (.ref a :: argsL).toArray h n0 Q') (hf : rm'.frames + 1 ≤ rm.frames) (hl : (rest.map fun v => v.category).sum + (mL + 11) + rm'.locals ≤ rm.locals) (hc : k' ≤ rm.cells) (hn : n' ≤ rm.slots) (ek : k + rm'.cells = k') (en : n + rm'.slots = n') (hp : pc + 3 = pc')
    (g : ∀ v h', Q' v h' → G w Q h' k' n' pc' Ls (psh v rest)) : G w Q h k n pc Ls st := by
  subst hp ek en; intro T locs X eT N
  have hl0 : w.l = l := C.1
  subst hl0
  obtain ⟨v, vm₁, B, -, X', hQ, s'⟩ := X.specialBack C.ex hy1 C.ow (mvT C.hZ w1) (mvT C.hZ w2) (mvT C.hZ w4) hy (backOf (W := (rest.map fun v => v.category).sum) (Q := fun v h L => Q' v h ∧ Fr n0 L) (K []) C.hZ w4 w3 (by rw [C.ro]; exact hf) (by rw [C.ro]; exact hl)) (g := mkF w.m pc Ls st) rfl (hz.trans C.ml.symm) (Steps.refl _) (a := a) (argsL := argsL) (rest := rest) (lenOf pd hlen) hst (by show 2 * 0 + _ ≤ _; omega) (C.dec hd) (fun _ _ => ⟨rfl, eT, by rw [C.ro]; exact hc, by rw [C.ro]; exact hn⟩)
  exact g_fin (T := T) (as := argsL.toArray) (A := (⟨T.setVm vm₁, locs, k, n⟩ : Pt)) C ⟨rfl, rfl, rfl⟩ X' hQ N g (fun t r => s'.trans r)
theorem g_virtual (C : Cx w l Z own bytes mx rt nm rm n0) {y z : MethodName} {B : String} {i mL : Nat} {bs : ByteArray} {rt' : Option FieldType} {rm' : Room} {Q' : Option Value → Heap → Prop} {a : Addr} {argsL : List Value} {ps : List FieldType} {r : Option FieldType}
    (w1 : (Jvm.Cond.methodLink own i y).before a0 Z = true) (w2 : (Jvm.Cond.declares y).before a0 Z = true) (nf : ∀ {s : State}, Z.Warmed39 s.vm → NotFace s y) (ws : (Jvm.Cond.selects B y z).before a0 Z = true) (w5 : (Jvm.Cond.instanceMethod z).before a0 Z = true) (w3 : (Jvm.Cond.initialized z.cls).before a0 Z = true) (w4 : (Jvm.Cond.code z bs mL rt').before a0 Z = true) (hy : y.cls ≠ "java/lang/invoke/MethodHandle" ∧ y.cls ≠ "java/lang/invoke/VarHandle")
    (hd : decode bytes pc = .ok (.invokevirtual i, 3)) (pd : parseMethodDescriptor y.desc = some ⟨ps, r⟩) (hlen : argsL.length = ps.length) (hst : st = argsL.reverse ++ .ref a :: rest) (hz : Ls.size = mx) (E : Exa Z h a B)
    (K : Con l Z z bs mL rt' rm' (.ref a :: argsL).toArray h n0 Q') (hf : rm'.frames + 1 ≤ rm.frames) (hl : (rest.map fun v => v.category).sum + (mL + 11) + rm'.locals ≤ rm.locals) (hc : k' ≤ rm.cells) (hn : n' ≤ rm.slots) (ek : k + rm'.cells = k') (en : n + rm'.slots = n') (hp : pc + 3 = pc')
    (g : ∀ v h', Q' v h' → G w Q h' k' n' pc' Ls (psh v rest)) : G w Q h k n pc Ls st := by
  subst hp ek en; intro T locs X eT N
  have hl0 : w.l = l := C.1
  subst hl0
  obtain ⟨cq, kq, q1, q2, q3⟩ := isOf C.hZ eT E
  obtain ⟨v, vm₁, B, -, X', hQ, s'⟩ := X.virtualBack C.ex C.ow (mvT C.hZ w1) (mvT C.hZ w2) (nf C.hZ) (mvT C.hZ ws) (mvT C.hZ w5) hy (backOf (W := (rest.map fun v => v.category).sum) (Q := fun v h L => Q' v h ∧ Fr n0 L) (K []) C.hZ w4 w3 (by rw [C.ro]; exact hf) (by rw [C.ro]; exact hl)) q1 q3 (g := mkF w.m pc Ls st) rfl (hz.trans C.ml.symm) (Steps.refl _) (argsL := argsL) (rest := rest) (lenOf pd hlen) hst (by show 2 * 0 + _ ≤ _; omega) (C.dec hd) (fun _ _ => ⟨rfl, eT, by rw [C.ro]; exact hc, by rw [C.ro]; exact hn⟩)
  exact g_fin (T := T) (as := argsL.toArray) (A := (⟨T.setVm vm₁, locs, k, n⟩ : Pt)) C ⟨rfl, rfl, rfl⟩ X' hQ N g (fun t r => s'.trans r)
theorem nfSel {y : MethodName} {B : String} (ws : (Jvm.Cond.selects B y y).before a0 Z = true) : ∀ {s : State}, Z.Warmed39 s.vm → NotFace s y := fun hZ => notFace_of_selects (args := #[]) (mvT hZ ws)
theorem g_virtualUp (C : Cx w l Z own bytes mx rt nm rm n0) {y z : MethodName} {B owner : String} {i mL : Nat} {bs : ByteArray} {rt' : Option FieldType} {rm' : Room} {Q' : Option Value → Heap → Prop} {a : Addr} {argsL : List Value} {ps : List FieldType} {r : Option FieldType}
    (w1 : (Jvm.Cond.methodLink own i y).before a0 Z = true) (wm : (Jvm.Cond.sameMethod y.cls owner y.name y.desc).before a0 Z = true) (w2 : (Jvm.Cond.declares ⟨owner, y.name, y.desc⟩).before a0 Z = true) (ho : owner ≠ "java/lang/invoke/MethodHandle" ∧ owner ≠ "java/lang/invoke/VarHandle") (ws : (Jvm.Cond.selects B y z).before a0 Z = true) (w5 : (Jvm.Cond.instanceMethod z).before a0 Z = true) (w3 : (Jvm.Cond.initialized z.cls).before a0 Z = true) (w4 : (Jvm.Cond.code z bs mL rt').before a0 Z = true)
    (hd : decode bytes pc = .ok (.invokevirtual i, 3)) (pd : parseMethodDescriptor y.desc = some ⟨ps, r⟩) (hlen : argsL.length = ps.length) (hst : st = argsL.reverse ++ .ref a :: rest) (hz : Ls.size = mx) (E : Exa Z h a B)
    (K : Con l Z z bs mL rt' rm' (.ref a :: argsL).toArray h n0 Q') (hf : rm'.frames + 1 ≤ rm.frames) (hl : (rest.map fun v => v.category).sum + (mL + 11) + rm'.locals ≤ rm.locals) (hc : k' ≤ rm.cells) (hn : n' ≤ rm.slots) (ek : k + rm'.cells = k') (en : n + rm'.slots = n') (hp : pc + 3 = pc')
    (g : ∀ v h', Q' v h' → G w Q h' k' n' pc' Ls (psh v rest)) : G w Q h k n pc Ls st := by
  subst hp ek en; intro T locs X eT N
  have hl0 : w.l = l := C.1
  subst hl0
  obtain ⟨cq, kq, q1, q2, q3⟩ := isOf C.hZ eT E
  obtain ⟨v, vm₁, B, -, X', hQ, s'⟩ := X.virtualBackUp C.ex C.ow (mvT C.hZ w1) (mvT C.hZ wm) (mvT C.hZ w2) ho (mvT C.hZ ws) (mvT C.hZ w5) (backOf (W := (rest.map fun v => v.category).sum) (Q := fun v h L => Q' v h ∧ Fr n0 L) (K []) C.hZ w4 w3 (by rw [C.ro]; exact hf) (by rw [C.ro]; exact hl)) q1 q3 (g := mkF w.m pc Ls st) rfl (hz.trans C.ml.symm) (Steps.refl _) (argsL := argsL) (rest := rest) (lenOf pd hlen) hst (by show 2 * 0 + _ ≤ _; omega) (C.dec hd) (fun _ _ => ⟨rfl, eT, by rw [C.ro]; exact hc, by rw [C.ro]; exact hn⟩)
  exact g_fin (T := T) (as := argsL.toArray) (A := (⟨T.setVm vm₁, locs, k, n⟩ : Pt)) C ⟨rfl, rfl, rfl⟩ X' hQ N g (fun t r => s'.trans r)
theorem g_interface (C : Cx w l Z own bytes mx rt nm rm n0) {y z : MethodName} {B : String} {count : Nat} {i mL : Nat} {bs : ByteArray} {rt' : Option FieldType} {rm' : Room} {Q' : Option Value → Heap → Prop} {a : Addr} {argsL : List Value} {ps : List FieldType} {r : Option FieldType}
    (w1 : (Jvm.Cond.methodLink own i y).before a0 Z = true) (w2 : (Jvm.Cond.declares y).before a0 Z = true) (wf : (Jvm.Cond.interfaceMethod y.cls y.cls y.name y.desc).before a0 Z = true) (hfa : ((Jvm.Cond.interfaceMethod y.cls y.cls y.name y.desc).onTables && (Jvm.Cond.interfaceMethod y.cls y.cls y.name y.desc).keepsFace) = true) (ws : (Jvm.Cond.selects B y z).before a0 Z = true) (w5 : (Jvm.Cond.instanceMethod z).before a0 Z = true) (wp : (Jvm.Cond.publicMethod z).before a0 Z = true) (wu : (Jvm.Cond.unhidden B y.name y.desc).before a0 Z = true) (wk : (Jvm.Cond.castable B y.cls).before a0 Z = true) (w3 : (Jvm.Cond.initialized z.cls).before a0 Z = true) (w4 : (Jvm.Cond.code z bs mL rt').before a0 Z = true) (hy : y.cls ≠ "java/lang/invoke/MethodHandle" ∧ y.cls ≠ "java/lang/invoke/VarHandle")
    (hd : decode bytes pc = .ok (.invokeinterface i count, 5)) (pd : parseMethodDescriptor y.desc = some ⟨ps, r⟩) (hlen : argsL.length = ps.length) (hst : st = argsL.reverse ++ .ref a :: rest) (hz : Ls.size = mx) (E : Exa Z h a B)
    (K : Con l Z z bs mL rt' rm' (.ref a :: argsL).toArray h n0 Q') (hf : rm'.frames + 1 ≤ rm.frames) (hl : (rest.map fun v => v.category).sum + (mL + 11) + rm'.locals ≤ rm.locals) (hc : k' ≤ rm.cells) (hn : n' ≤ rm.slots) (ek : k + rm'.cells = k') (en : n + rm'.slots = n') (hp : pc + 5 = pc')
    (g : ∀ v h', Q' v h' → G w Q h' k' n' pc' Ls (psh v rest)) : G w Q h k n pc Ls st := by
  subst hp ek en; intro T locs X eT N
  have hl0 : w.l = l := C.1
  subst hl0
  obtain ⟨cq, kq, q1, q2, q3⟩ := isOf C.hZ eT E
  obtain ⟨v, vm₁, B, -, X', hQ, s'⟩ := X.interfaceBack C.ex C.ow (mvT C.hZ w1) (mvT C.hZ w2) (mvT C.hZ wf hfa) (mvT C.hZ ws) (mvT C.hZ w5) (mvT C.hZ wp) (mvT C.hZ wu) (mvT C.hZ wk) hy (backOf (W := (rest.map fun v => v.category).sum) (Q := fun v h L => Q' v h ∧ Fr n0 L) (K []) C.hZ w4 w3 (by rw [C.ro]; exact hf) (by rw [C.ro]; exact hl)) q1 q2 q3 (g := mkF w.m pc Ls st) rfl (hz.trans C.ml.symm) (Steps.refl _) (argsL := argsL) (rest := rest) (lenOf pd hlen) hst (by show 2 * 0 + _ ≤ _; omega) (C.dec hd) (fun _ _ => ⟨rfl, eT, by rw [C.ro]; exact hc, by rw [C.ro]; exact hn⟩)
  exact g_fin (T := T) (as := argsL.toArray) (A := (⟨T.setVm vm₁, locs, k, n⟩ : Pt)) C ⟨rfl, rfl, rfl⟩ X' hQ N g (fun t r => s'.trans r)
theorem g_private (C : Cx w l Z own bytes mx rt nm rm n0) {y : MethodName} {B : String} {kk i mL : Nat} {bs : ByteArray} {rt' : Option FieldType} {rm' : Room} {Q' : Option Value → Heap → Prop} {a : Addr} {argsL : List Value} {ps : List FieldType} {r : Option FieldType}
    (w1 : (Jvm.Cond.methodLink own i y).before a0 Z = true) (w5 : (Jvm.Cond.instanceMethod y).before a0 Z = true) (wi : (Jvm.Cond.instantiable y.cls kk).before a0 Z = true) (wp : (Jvm.Cond.privateMethod y).before a0 Z = true) (w3 : (Jvm.Cond.initialized y.cls).before a0 Z = true) (w4 : (Jvm.Cond.code y bs mL rt').before a0 Z = true) (hy : y.cls ≠ "java/lang/invoke/MethodHandle" ∧ y.cls ≠ "java/lang/invoke/VarHandle")
    (hd : decode bytes pc = .ok (.invokevirtual i, 3)) (pd : parseMethodDescriptor y.desc = some ⟨ps, r⟩) (hlen : argsL.length = ps.length) (hst : st = argsL.reverse ++ .ref a :: rest) (hz : Ls.size = mx) (E : Exa Z h a B)
    (K : Con l Z y bs mL rt' rm' (.ref a :: argsL).toArray h n0 Q') (hf : rm'.frames + 1 ≤ rm.frames) (hl : (rest.map fun v => v.category).sum + (mL + 11) + rm'.locals ≤ rm.locals) (hc : k' ≤ rm.cells) (hn : n' ≤ rm.slots) (ek : k + rm'.cells = k') (en : n + rm'.slots = n') (hp : pc + 3 = pc')
    (g : ∀ v h', Q' v h' → G w Q h' k' n' pc' Ls (psh v rest)) : G w Q h k n pc Ls st := by
  subst hp ek en; intro T locs X eT N
  have hl0 : w.l = l := C.1
  subst hl0
  obtain ⟨cq, q1, q2⟩ := E.cell
  have wi' : (Jvm.Cond.instantiable y.cls kk).before w.args w.s = true := mvT C.hZ wi
  obtain ⟨c2, k2, i1, i2, -, i4, -⟩ := Cond.instantiable_spec wi'
  have hni : k2.isInterface = false := (Bool.or_eq_false_iff.mp i4).1
  have hpv := Cond.privateMethod_at (mvP C.hZ wp (args := w.args))
  obtain ⟨v, vm₁, B, -, X', hQ, s'⟩ := X.privateBack C.ex C.ow (mvT C.hZ w1) (mvT C.hZ w5) (selects_self_of_private i1 i2 hni hpv (mvT C.hZ w5) hy) hpv (mvT C.hZ w4) hy (backOf (W := (rest.map fun v => v.category).sum) (Q := fun v h L => Q' v h ∧ Fr n0 L) (K []) C.hZ w4 w3 (by rw [C.ro]; exact hf) (by rw [C.ro]; exact hl)) (g := mkF w.m pc Ls st) rfl (hz.trans C.ml.symm) (Steps.refl _) (a := a) (by rw [eT]; exact q1) q2 (argsL := argsL) (rest := rest) (lenOf pd hlen) hst (by show 2 * 0 + _ ≤ _; omega) (C.dec hd) (fun _ _ => ⟨rfl, eT, by rw [C.ro]; exact hc, by rw [C.ro]; exact hn⟩)
  exact g_fin (T := T) (as := argsL.toArray) (A := (⟨T.setVm vm₁, locs, k, n⟩ : Pt)) C ⟨rfl, rfl, rfl⟩ X' hQ N g (fun t r => s'.trans r)
theorem g_lswHit (C : Cx w l Z own bytes mx rt nm rm n0) {df : Int} {prs : Array (Int × Int)} {len : Nat} {a o : Int} {i : Int32} (hd : decode bytes pc = .ok (.lookupswitch df prs, len)) (hs : st = .int i :: rest) (hso : (prs.toList.zip (prs.toList.drop 1)).all (fun (a, next) => a.1 < next.1) = true) (hf : prs.find? (·.1 == i.toInt) = some (a, o)) (ho : 0 ≤ (pc : Int) + o) (hp : ((pc : Int) + o).toNat = pc') (g : G w Q h k n pc' Ls rest) : G w Q h k n pc Ls st := by
  subst hp; exact g.adv fun T locs X _ t r => X.lookupswitchHit C.ex (g := mkF w.m pc Ls st) rfl hs (C.dec hd) hso hf ho t r
theorem g_lswMiss (C : Cx w l Z own bytes mx rt nm rm n0) {df : Int} {prs : Array (Int × Int)} {len : Nat} {i : Int32} (hd : decode bytes pc = .ok (.lookupswitch df prs, len)) (hs : st = .int i :: rest) (hso : (prs.toList.zip (prs.toList.drop 1)).all (fun (a, next) => a.1 < next.1) = true) (hf : prs.find? (·.1 == i.toInt) = none) (ho : 0 ≤ (pc : Int) + df) (hp : ((pc : Int) + df).toNat = pc') (g : G w Q h k n pc' Ls rest) : G w Q h k n pc Ls st := by
  subst hp; exact g.adv fun T locs X _ t r => X.lookupswitchMiss C.ex (g := mkF w.m pc Ls st) rfl hs (C.dec hd) hso hf ho t r
end Gs
theorem wd {Z : State} {a0 : Array Value} (hw : ∀ d ∈ tables_1, d.before a0 Z = true) (i : Nat) {d : Jvm.Cond} (e : tables_1[i]? = some d) : d.before a0 Z = true := hw _ (List.mem_of_getElem? e)
theorem own_fldInt {args : Array Value} {s : State} {t : Term} {a : Addr} {C f d : String} {k : Int32} (ev : t.eval args s none [] s = some (.ref a)) (h : (Jvm.Cond.eq (.field t C f d) (.int k)).value args s none s [] = some true) : Fld s s.heap a C f d (.int k) := by
  obtain ⟨x, y, hx, hy, k1, k2⟩ := cmp_v (Or.inl h)
  cases (Term.int_eval k).symm.trans hy
  obtain ⟨z, rfl⟩ : ∃ z, x = .int z := by simpa [Kin] using k2
  have e : z = k := by simpa [Jvm.Cond.value, hx, hy] using h
  subst e
  rw [fld_at ev] at hx
  exact Fld.start hx
theorem own_fldLong {args : Array Value} {s : State} {t : Term} {a : Addr} {C f d : String} {k : Int64} (ev : t.eval args s none [] s = some (.ref a)) (h : (Jvm.Cond.eq (.field t C f d) (.long k)).value args s none s [] = some true) : Fld s s.heap a C f d (.long k) := by
  obtain ⟨x, y, hx, hy, k1, k2⟩ := cmp_v (Or.inl h)
  cases (long_at k).symm.trans hy
  obtain ⟨z, rfl⟩ : ∃ z, x = .long z := by simpa [Kin] using k2
  have e : z = k := by simpa [Jvm.Cond.value, hx, hy] using h
  subst e
  rw [fld_at ev] at hx
  exact Fld.start hx
theorem own_staLong {args : Array Value} {s : State} {t : Term} {k : Int64} (h : (Jvm.Cond.eq t (.long k)).value args s none s [] = some true) : t.eval args s none [] s = some (.long k) := by
  obtain ⟨x, y, hx, hy, k1, k2⟩ := cmp_v (Or.inl h)
  cases (long_at k).symm.trans hy
  obtain ⟨z, rfl⟩ : ∃ z, x = .long z := by simpa [Kin] using k2
  have e : z = k := by simpa [Jvm.Cond.value, hx, hy] using h
  subst e
  exact hx
theorem own_staInt {args : Array Value} {s : State} {t : Term} {k : Int32} (h : (Jvm.Cond.eq t (.int k)).value args s none s [] = some true) : t.eval args s none [] s = some (.int k) := by
  obtain ⟨x, y, hx, hy, k1, k2⟩ := cmp_v (Or.inl h)
  cases (Term.int_eval k).symm.trans hy
  obtain ⟨z, rfl⟩ : ∃ z, x = .int z := by simpa [Kin] using k2
  have e : z = k := by simpa [Jvm.Cond.value, hx, hy] using h
  subst e
  exact hx
theorem own_ine {i j : Int32} (h : i ≠ j) : (Value.int i) ≠ .int j := fun q => h (by injection q)
theorem own_mask31 (x : Int32) : 0 ≤ (x &&& 2147483647).toInt ∧ (x &&& 2147483647).toInt < 2147483648 := by
  have := c_mask x 2147483647 31 (by decide) (by decide)
  rw [this]; omega
def En (Z : State)  : Prop := (Sta Z Z.heap "com/example/tributary/tributary/source/sparql/LettingGo" "DRAIN_LIMIT" "J" (.long (1000000000 : Int64)))
def LG (Z : State) (h : Heap) (a : Addr) (v0 : Int32) (v1 : Int32) (v2 : Int64) (v3 : Int64) : Prop := Exa Z h a "com/example/tributary/tributary/source/sparql/LettingGo" ∧ Fld Z h a "com/example/tributary/tributary/source/sparql/LettingGo" "givenUp" "Z" (.int v0) ∧ Fld Z h a "com/example/tributary/tributary/source/sparql/LettingGo" "letGo" "Z" (.int v1) ∧ Fld Z h a "com/example/tributary/tributary/source/sparql/LettingGo" "letGoAt" "J" (.long v2) ∧ Fld Z h a "com/example/tributary/tributary/source/sparql/LettingGo" "dropped" "J" (.long v3)
theorem d1_0 : decode prog_48_method_1_code 0 = .ok (.aload_n 0, 1) := by decide +kernel
theorem d1_1 : decode prog_48_method_1_code 1 = .ok (.invokespecial 1, 3) := by decide +kernel
theorem d1_4 : decode prog_48_method_1_code 4 = .ok (.return_, 1) := by decide +kernel
theorem pn_0 : plainName "com/example/tributary/tributary/source/sparql/LettingGo" = true := by first | (simp [plainName, overriddenIn]; done) | decide +kernel
set_option maxRecDepth 65536 in
set_option maxHeartbeats 40000000 in
theorem init (l : Launch) (Z : State) (a0 : Array Value) (hw : ∀ d ∈ tables_1, d.before a0 Z = true) (n0 : Nat) (h : Heap) (O : Old Z n0 h)  (H : En Z ) (a : Addr) (ga : n0 ≤ a) (P : LG Z h a (0 : Int32) (0 : Int32) (0 : Int64) (0 : Int64)) : Con l Z (⟨"com/example/tributary/tributary/source/sparql/LettingGo", "<init>", "()V"⟩ : MethodName) prog_48_method_1_code 1 none ({ frames := 1, cells := 0, slots := 0, locals := 12 } : Room) #[(.ref a)] h n0 (fun v h' => v = none ∧ h' = h) := by
  refine Con.mk (Ls := #[.val (.ref a)]) (plainFor_of_name pn_0) (fun m => by first | (simp [entryFrame, mkF, argsToLocals, Value.category]; done) | rfl) (fun w C => ?_)
  replace C : Cx w l Z "com/example/tributary/tributary/source/sparql/LettingGo" prog_48_method_1_code 1 none "<init>" ({ frames := 1, cells := 0, slots := 0, locals := 12 } : Room) n0 := C
  have S_DRAIN_LIMIT : Sta Z Z.heap "com/example/tributary/tributary/source/sparql/LettingGo" "DRAIN_LIMIT" "J" (.long (1000000000 : Int64)) := H
  obtain ⟨E_a, F_givenUp_a, F_letGo_a, F_letGoAt_a, F_dropped_a⟩ := P
  refine g_aloadN C (pc' := 1) d1_0 rfl rfl rfl ?_
  refine g_initO C (pc' := 4) (wd hw 6 rfl) (wd hw 7 rfl) (wd hw 8 rfl) d1_1 rfl rfl (Nat.le_of_ble_eq_true rfl) (Nat.le_of_ble_eq_true rfl) rfl ?_
  exact g_return C d1_4 rfl (Nat.le_of_ble_eq_true rfl) (Nat.le_of_ble_eq_true rfl) (⟨rfl, rfl⟩)
theorem d4_0 : decode prog_48_method_2_code 0 = .ok (.aload_n 0, 1) := by decide +kernel
theorem d4_1 : decode prog_48_method_2_code 1 = .ok (.getfield 7, 3) := by decide +kernel
theorem d4_4 : decode prog_48_method_2_code 4 = .ok (.ireturn, 1) := by decide +kernel
set_option maxRecDepth 65536 in
set_option maxHeartbeats 40000000 in
theorem givenUp_00 (l : Launch) (Z : State) (a0 : Array Value) (hw : ∀ d ∈ tables_1, d.before a0 Z = true) (n0 : Nat) (h : Heap) (O : Old Z n0 h)  (H : En Z ) (a : Addr) (ga : n0 ≤ a) (t dr : Int64) (P : LG Z h a (0 : Int32) (0 : Int32) t dr) : Con l Z (⟨"com/example/tributary/tributary/source/sparql/LettingGo", "givenUp", "()Z"⟩ : MethodName) prog_48_method_2_code 1 (some .boolean) ({ frames := 0, cells := 0, slots := 0, locals := 0 } : Room) #[(.ref a)] h n0 (fun v h' => v = some (.int (0 : Int32)) ∧ h' = h) := by
  refine Con.mk (Ls := #[.val (.ref a)]) (plainFor_of_name pn_0) (fun m => by first | (simp [entryFrame, mkF, argsToLocals, Value.category]; done) | rfl) (fun w C => ?_)
  replace C : Cx w l Z "com/example/tributary/tributary/source/sparql/LettingGo" prog_48_method_2_code 1 (some .boolean) "givenUp" ({ frames := 0, cells := 0, slots := 0, locals := 0 } : Room) n0 := C
  have S_DRAIN_LIMIT : Sta Z Z.heap "com/example/tributary/tributary/source/sparql/LettingGo" "DRAIN_LIMIT" "J" (.long (1000000000 : Int64)) := H
  obtain ⟨E_a, F_givenUp_a, F_letGo_a, F_letGoAt_a, F_dropped_a⟩ := P
  refine g_aloadN C (pc' := 1) d4_0 rfl rfl rfl ?_
  refine g_getF C (pc' := 4) (wd hw 22 rfl) Via.refl d4_1 rfl F_givenUp_a rfl ?_
  exact g_zreturn C d4_4 rfl rfl (Nat.le_of_ble_eq_true rfl) (Nat.le_of_ble_eq_true rfl) (⟨rfl, rfl⟩)
theorem d5_0 : decode prog_48_method_3_code 0 = .ok (.aload_n 0, 1) := by decide +kernel
theorem d5_1 : decode prog_48_method_3_code 1 = .ok (.getfield 13, 3) := by decide +kernel
theorem d5_4 : decode prog_48_method_3_code 4 = .ok (.ireturn, 1) := by decide +kernel
set_option maxRecDepth 65536 in
set_option maxHeartbeats 40000000 in
theorem isLetGo_00 (l : Launch) (Z : State) (a0 : Array Value) (hw : ∀ d ∈ tables_1, d.before a0 Z = true) (n0 : Nat) (h : Heap) (O : Old Z n0 h)  (H : En Z ) (a : Addr) (ga : n0 ≤ a) (t dr : Int64) (P : LG Z h a (0 : Int32) (0 : Int32) t dr) : Con l Z (⟨"com/example/tributary/tributary/source/sparql/LettingGo", "isLetGo", "()Z"⟩ : MethodName) prog_48_method_3_code 1 (some .boolean) ({ frames := 0, cells := 0, slots := 0, locals := 0 } : Room) #[(.ref a)] h n0 (fun v h' => v = some (.int (0 : Int32)) ∧ h' = h) := by
  refine Con.mk (Ls := #[.val (.ref a)]) (plainFor_of_name pn_0) (fun m => by first | (simp [entryFrame, mkF, argsToLocals, Value.category]; done) | rfl) (fun w C => ?_)
  replace C : Cx w l Z "com/example/tributary/tributary/source/sparql/LettingGo" prog_48_method_3_code 1 (some .boolean) "isLetGo" ({ frames := 0, cells := 0, slots := 0, locals := 0 } : Room) n0 := C
  have S_DRAIN_LIMIT : Sta Z Z.heap "com/example/tributary/tributary/source/sparql/LettingGo" "DRAIN_LIMIT" "J" (.long (1000000000 : Int64)) := H
  obtain ⟨E_a, F_givenUp_a, F_letGo_a, F_letGoAt_a, F_dropped_a⟩ := P
  refine g_aloadN C (pc' := 1) d5_0 rfl rfl rfl ?_
  refine g_getF C (pc' := 4) (wd hw 15 rfl) Via.refl d5_1 rfl F_letGo_a rfl ?_
  exact g_zreturn C d5_4 rfl rfl (Nat.le_of_ble_eq_true rfl) (Nat.le_of_ble_eq_true rfl) (⟨rfl, rfl⟩)
theorem d6_0 : decode prog_48_method_5_code 0 = .ok (.aload_n 0, 1) := by decide +kernel
theorem d6_1 : decode prog_48_method_5_code 1 = .ok (.getfield 13, 3) := by decide +kernel
theorem d6_4 : decode prog_48_method_5_code 4 = .ok (.ifCond .eq 5, 3) := by decide +kernel
theorem d6_9 : decode prog_48_method_5_code 9 = .ok (.aload_n 0, 1) := by decide +kernel
theorem d6_10 : decode prog_48_method_5_code 10 = .ok (.iconst 1, 1) := by decide +kernel
theorem d6_11 : decode prog_48_method_5_code 11 = .ok (.putfield 7, 3) := by decide +kernel
theorem d6_14 : decode prog_48_method_5_code 14 = .ok (.iconst 1, 1) := by decide +kernel
theorem d6_15 : decode prog_48_method_5_code 15 = .ok (.ireturn, 1) := by decide +kernel
set_option maxRecDepth 65536 in
set_option maxHeartbeats 40000000 in
theorem giveUp_00 (l : Launch) (Z : State) (a0 : Array Value) (hw : ∀ d ∈ tables_1, d.before a0 Z = true) (n0 : Nat) (h : Heap) (O : Old Z n0 h)  (H : En Z ) (a : Addr) (ga : n0 ≤ a) (t dr : Int64) (P : LG Z h a (0 : Int32) (0 : Int32) t dr) : Con l Z (⟨"com/example/tributary/tributary/source/sparql/LettingGo", "giveUp", "()Z"⟩ : MethodName) prog_48_method_5_code 1 (some .boolean) ({ frames := 0, cells := 0, slots := 0, locals := 0 } : Room) #[(.ref a)] h n0 (fun v h' => v = some (.int (1 : Int32)) ∧ Keep h h' [a] ∧ LG Z h' a (1 : Int32) (0 : Int32) t dr) := by
  refine Con.mk (Ls := #[.val (.ref a)]) (plainFor_of_name pn_0) (fun m => by first | (simp [entryFrame, mkF, argsToLocals, Value.category]; done) | rfl) (fun w C => ?_)
  replace C : Cx w l Z "com/example/tributary/tributary/source/sparql/LettingGo" prog_48_method_5_code 1 (some .boolean) "giveUp" ({ frames := 0, cells := 0, slots := 0, locals := 0 } : Room) n0 := C
  have S_DRAIN_LIMIT : Sta Z Z.heap "com/example/tributary/tributary/source/sparql/LettingGo" "DRAIN_LIMIT" "J" (.long (1000000000 : Int64)) := H
  obtain ⟨E_a, F_givenUp_a, F_letGo_a, F_letGoAt_a, F_dropped_a⟩ := P
  refine g_aloadN C (pc' := 1) d6_0 rfl rfl rfl ?_
  refine g_getF C (pc' := 4) (wd hw 15 rfl) Via.refl d6_1 rfl F_letGo_a rfl ?_
  refine g_ifY C (pc' := 9) d6_4 rfl (by decide) (by decide) rfl ?_
  refine g_aloadN C (pc' := 10) d6_9 rfl rfl rfl ?_
  refine g_iconst C (pc' := 11) (v := (1 : Int32)) d6_10 (by decide) rfl ?_
  refine g_putFN C (pc' := 14) (v' := (.int (1 : Int32))) (ty := .boolean) (wd hw 22 rfl) Via.refl d6_11 rfl F_givenUp_a E_a (Or.inl (wd hw 23 rfl)) (wd hw 1 rfl) (by decide) rfl rfl ga rfl (fun h1 W2 => ?_)
  have f3 := O.wr W2 ga
  have f4 := E_a.wr W2
  have f5 := F_givenUp_a.same W2
  have f6 := F_letGo_a.other W2 (Or.inr (slot_ne (Or.inl (wd hw 16 rfl)) (Or.inl (wd hw 23 rfl)) (by decide) (t := .boolean) (t' := .boolean) (by decide) (by decide)))
  have f7 := F_letGoAt_a.other W2 (Or.inr (slot_ne (Or.inl (wd hw 40 rfl)) (Or.inl (wd hw 23 rfl)) (by decide) (t := .long) (t' := .boolean) (by decide) (by decide)))
  have f8 := F_dropped_a.other W2 (Or.inr (slot_ne (Or.inl (wd hw 42 rfl)) (Or.inl (wd hw 23 rfl)) (by decide) (t := .long) (t' := .boolean) (by decide) (by decide)))
  have f9 := (Keep.refl h [a]).wr W2 (Or.inl (List.mem_of_getElem? (i := 0) rfl))
  refine g_iconst C (pc' := 15) (v := (1 : Int32)) d6_14 (by decide) rfl ?_
  exact g_zreturn C d6_15 rfl rfl (Nat.le_of_ble_eq_true rfl) (Nat.le_of_ble_eq_true rfl) (⟨rfl, f9, ⟨f4, f5, f6, f7, f8⟩⟩)
theorem d7_0 : decode prog_48_method_4_code 0 = .ok (.aload_n 0, 1) := by decide +kernel
theorem d7_1 : decode prog_48_method_4_code 1 = .ok (.getfield 7, 3) := by decide +kernel
theorem d7_4 : decode prog_48_method_4_code 4 = .ok (.ifCond .ne 10, 3) := by decide +kernel
theorem d7_7 : decode prog_48_method_4_code 7 = .ok (.aload_n 0, 1) := by decide +kernel
theorem d7_8 : decode prog_48_method_4_code 8 = .ok (.getfield 13, 3) := by decide +kernel
theorem d7_11 : decode prog_48_method_4_code 11 = .ok (.ifCond .eq 5, 3) := by decide +kernel
theorem d7_16 : decode prog_48_method_4_code 16 = .ok (.aload_n 0, 1) := by decide +kernel
theorem d7_17 : decode prog_48_method_4_code 17 = .ok (.iconst 1, 1) := by decide +kernel
theorem d7_18 : decode prog_48_method_4_code 18 = .ok (.putfield 13, 3) := by decide +kernel
theorem d7_21 : decode prog_48_method_4_code 21 = .ok (.aload_n 0, 1) := by decide +kernel
theorem d7_22 : decode prog_48_method_4_code 22 = .ok (.lload_n 1, 1) := by decide +kernel
theorem d7_23 : decode prog_48_method_4_code 23 = .ok (.putfield 16, 3) := by decide +kernel
theorem d7_26 : decode prog_48_method_4_code 26 = .ok (.iconst 1, 1) := by decide +kernel
theorem d7_27 : decode prog_48_method_4_code 27 = .ok (.ireturn, 1) := by decide +kernel
set_option maxRecDepth 65536 in
set_option maxHeartbeats 40000000 in
theorem letGo_00 (l : Launch) (Z : State) (a0 : Array Value) (hw : ∀ d ∈ tables_1, d.before a0 Z = true) (n0 : Nat) (h : Heap) (O : Old Z n0 h)  (H : En Z ) (a : Addr) (ga : n0 ≤ a) (t dr : Int64) (q : Int64) (P : LG Z h a (0 : Int32) (0 : Int32) t dr) : Con l Z (⟨"com/example/tributary/tributary/source/sparql/LettingGo", "letGo", "(J)Z"⟩ : MethodName) prog_48_method_4_code 3 (some .boolean) ({ frames := 0, cells := 0, slots := 0, locals := 0 } : Room) #[(.ref a), (.long q)] h n0 (fun v h' => v = some (.int (1 : Int32)) ∧ Keep h h' [a] ∧ LG Z h' a (0 : Int32) (1 : Int32) q dr) := by
  refine Con.mk (Ls := #[.val (.ref a), .val (.long q), .second]) (plainFor_of_name pn_0) (fun m => by first | (simp [entryFrame, mkF, argsToLocals, Value.category]; done) | rfl) (fun w C => ?_)
  replace C : Cx w l Z "com/example/tributary/tributary/source/sparql/LettingGo" prog_48_method_4_code 3 (some .boolean) "letGo" ({ frames := 0, cells := 0, slots := 0, locals := 0 } : Room) n0 := C
  have S_DRAIN_LIMIT : Sta Z Z.heap "com/example/tributary/tributary/source/sparql/LettingGo" "DRAIN_LIMIT" "J" (.long (1000000000 : Int64)) := H
  obtain ⟨E_a, F_givenUp_a, F_letGo_a, F_letGoAt_a, F_dropped_a⟩ := P
  refine g_aloadN C (pc' := 1) d7_0 rfl rfl rfl ?_
  refine g_getF C (pc' := 4) (wd hw 22 rfl) Via.refl d7_1 rfl F_givenUp_a rfl ?_
  refine g_ifN C (pc' := 7) d7_4 rfl (by decide) rfl ?_
  refine g_aloadN C (pc' := 8) d7_7 rfl rfl rfl ?_
  refine g_getF C (pc' := 11) (wd hw 15 rfl) Via.refl d7_8 rfl F_letGo_a rfl ?_
  refine g_ifY C (pc' := 16) d7_11 rfl (by decide) (by decide) rfl ?_
  refine g_aloadN C (pc' := 17) d7_16 rfl rfl rfl ?_
  refine g_iconst C (pc' := 18) (v := (1 : Int32)) d7_17 (by decide) rfl ?_
  refine g_putFN C (pc' := 21) (v' := (.int (1 : Int32))) (ty := .boolean) (wd hw 15 rfl) Via.refl d7_18 rfl F_letGo_a E_a (Or.inl (wd hw 16 rfl)) (wd hw 1 rfl) (by decide) rfl rfl ga rfl (fun h10 W11 => ?_)
  have f12 := O.wr W11 ga
  have f13 := E_a.wr W11
  have f14 := F_givenUp_a.other W11 (Or.inr (slot_ne (Or.inl (wd hw 23 rfl)) (Or.inl (wd hw 16 rfl)) (by decide) (t := .boolean) (t' := .boolean) (by decide) (by decide)))
  have f15 := F_letGo_a.same W11
  have f16 := F_letGoAt_a.other W11 (Or.inr (slot_ne (Or.inl (wd hw 40 rfl)) (Or.inl (wd hw 16 rfl)) (by decide) (t := .long) (t' := .boolean) (by decide) (by decide)))
  have f17 := F_dropped_a.other W11 (Or.inr (slot_ne (Or.inl (wd hw 42 rfl)) (Or.inl (wd hw 16 rfl)) (by decide) (t := .long) (t' := .boolean) (by decide) (by decide)))
  have f18 := (Keep.refl h [a]).wr W11 (Or.inl (List.mem_of_getElem? (i := 0) rfl))
  refine g_aloadN C (pc' := 22) d7_21 rfl rfl rfl ?_
  refine g_lloadN C (pc' := 23) d7_22 rfl rfl ?_
  refine g_putF C (pc' := 26) (ty := .long) (wd hw 39 rfl) Via.refl d7_23 rfl f16 f13 (Or.inl (wd hw 40 rfl)) (wd hw 1 rfl) (by decide) rfl rfl ga rfl (fun h19 W20 => ?_)
  have f21 := f12.wr W20 ga
  have f22 := f13.wr W20
  have f23 := f14.other W20 (Or.inr (slot_ne (Or.inl (wd hw 23 rfl)) (Or.inl (wd hw 40 rfl)) (by decide) (t := .boolean) (t' := .long) (by decide) (by decide)))
  have f24 := f15.other W20 (Or.inr (slot_ne (Or.inl (wd hw 16 rfl)) (Or.inl (wd hw 40 rfl)) (by decide) (t := .boolean) (t' := .long) (by decide) (by decide)))
  have f25 := f16.same W20
  have f26 := f17.other W20 (Or.inr (slot_ne (Or.inl (wd hw 42 rfl)) (Or.inl (wd hw 40 rfl)) (by decide) (t := .long) (t' := .long) (by decide) (by decide)))
  have f27 := f18.wr W20 (Or.inl (List.mem_of_getElem? (i := 0) rfl))
  refine g_iconst C (pc' := 27) (v := (1 : Int32)) d7_26 (by decide) rfl ?_
  exact g_zreturn C d7_27 rfl rfl (Nat.le_of_ble_eq_true rfl) (Nat.le_of_ble_eq_true rfl) (⟨rfl, f27, ⟨f22, f23, f24, f25, f26⟩⟩)
theorem d3_0 : decode prog_48_method_6_code 0 = .ok (.aload_n 0, 1) := by decide +kernel
theorem d3_1 : decode prog_48_method_6_code 1 = .ok (.getfield 13, 3) := by decide +kernel
theorem d3_4 : decode prog_48_method_6_code 4 = .ok (.ifCond .eq 10, 3) := by decide +kernel
theorem d3_14 : decode prog_48_method_6_code 14 = .ok (.iconst 0, 1) := by decide +kernel
theorem d3_15 : decode prog_48_method_6_code 15 = .ok (.ireturn, 1) := by decide +kernel
set_option maxRecDepth 65536 in
set_option maxHeartbeats 40000000 in
theorem drops_00 (l : Launch) (Z : State) (a0 : Array Value) (hw : ∀ d ∈ tables_1, d.before a0 Z = true) (n0 : Nat) (h : Heap) (O : Old Z n0 h)  (H : En Z ) (a : Addr) (ga : n0 ≤ a) (t dr : Int64) (q : Int64) (P : LG Z h a (0 : Int32) (0 : Int32) t dr) : Con l Z (⟨"com/example/tributary/tributary/source/sparql/LettingGo", "drops", "(J)Z"⟩ : MethodName) prog_48_method_6_code 3 (some .boolean) ({ frames := 0, cells := 0, slots := 0, locals := 0 } : Room) #[(.ref a), (.long q)] h n0 (fun v h' => v = some (.int (0 : Int32)) ∧ h' = h) := by
  refine Con.mk (Ls := #[.val (.ref a), .val (.long q), .second]) (plainFor_of_name pn_0) (fun m => by first | (simp [entryFrame, mkF, argsToLocals, Value.category]; done) | rfl) (fun w C => ?_)
  replace C : Cx w l Z "com/example/tributary/tributary/source/sparql/LettingGo" prog_48_method_6_code 3 (some .boolean) "drops" ({ frames := 0, cells := 0, slots := 0, locals := 0 } : Room) n0 := C
  have S_DRAIN_LIMIT : Sta Z Z.heap "com/example/tributary/tributary/source/sparql/LettingGo" "DRAIN_LIMIT" "J" (.long (1000000000 : Int64)) := H
  obtain ⟨E_a, F_givenUp_a, F_letGo_a, F_letGoAt_a, F_dropped_a⟩ := P
  refine g_aloadN C (pc' := 1) d3_0 rfl rfl rfl ?_
  refine g_getF C (pc' := 4) (wd hw 15 rfl) Via.refl d3_1 rfl F_letGo_a rfl ?_
  refine g_ifY C (pc' := 14) d3_4 rfl (by decide) (by decide) rfl ?_
  refine g_iconst C (pc' := 15) (v := (0 : Int32)) d3_14 (by decide) rfl ?_
  exact g_zreturn C d3_15 rfl rfl (Nat.le_of_ble_eq_true rfl) (Nat.le_of_ble_eq_true rfl) (⟨rfl, rfl⟩)
set_option maxRecDepth 65536 in
set_option maxHeartbeats 40000000 in
theorem givenUp_01 (l : Launch) (Z : State) (a0 : Array Value) (hw : ∀ d ∈ tables_1, d.before a0 Z = true) (n0 : Nat) (h : Heap) (O : Old Z n0 h)  (H : En Z ) (a : Addr) (ga : n0 ≤ a) (t dr : Int64) (P : LG Z h a (0 : Int32) (1 : Int32) t dr) : Con l Z (⟨"com/example/tributary/tributary/source/sparql/LettingGo", "givenUp", "()Z"⟩ : MethodName) prog_48_method_2_code 1 (some .boolean) ({ frames := 0, cells := 0, slots := 0, locals := 0 } : Room) #[(.ref a)] h n0 (fun v h' => v = some (.int (0 : Int32)) ∧ h' = h) := by
  refine Con.mk (Ls := #[.val (.ref a)]) (plainFor_of_name pn_0) (fun m => by first | (simp [entryFrame, mkF, argsToLocals, Value.category]; done) | rfl) (fun w C => ?_)
  replace C : Cx w l Z "com/example/tributary/tributary/source/sparql/LettingGo" prog_48_method_2_code 1 (some .boolean) "givenUp" ({ frames := 0, cells := 0, slots := 0, locals := 0 } : Room) n0 := C
  have S_DRAIN_LIMIT : Sta Z Z.heap "com/example/tributary/tributary/source/sparql/LettingGo" "DRAIN_LIMIT" "J" (.long (1000000000 : Int64)) := H
  obtain ⟨E_a, F_givenUp_a, F_letGo_a, F_letGoAt_a, F_dropped_a⟩ := P
  refine g_aloadN C (pc' := 1) d4_0 rfl rfl rfl ?_
  refine g_getF C (pc' := 4) (wd hw 22 rfl) Via.refl d4_1 rfl F_givenUp_a rfl ?_
  exact g_zreturn C d4_4 rfl rfl (Nat.le_of_ble_eq_true rfl) (Nat.le_of_ble_eq_true rfl) (⟨rfl, rfl⟩)
set_option maxRecDepth 65536 in
set_option maxHeartbeats 40000000 in
theorem isLetGo_01 (l : Launch) (Z : State) (a0 : Array Value) (hw : ∀ d ∈ tables_1, d.before a0 Z = true) (n0 : Nat) (h : Heap) (O : Old Z n0 h)  (H : En Z ) (a : Addr) (ga : n0 ≤ a) (t dr : Int64) (P : LG Z h a (0 : Int32) (1 : Int32) t dr) : Con l Z (⟨"com/example/tributary/tributary/source/sparql/LettingGo", "isLetGo", "()Z"⟩ : MethodName) prog_48_method_3_code 1 (some .boolean) ({ frames := 0, cells := 0, slots := 0, locals := 0 } : Room) #[(.ref a)] h n0 (fun v h' => v = some (.int (1 : Int32)) ∧ h' = h) := by
  refine Con.mk (Ls := #[.val (.ref a)]) (plainFor_of_name pn_0) (fun m => by first | (simp [entryFrame, mkF, argsToLocals, Value.category]; done) | rfl) (fun w C => ?_)
  replace C : Cx w l Z "com/example/tributary/tributary/source/sparql/LettingGo" prog_48_method_3_code 1 (some .boolean) "isLetGo" ({ frames := 0, cells := 0, slots := 0, locals := 0 } : Room) n0 := C
  have S_DRAIN_LIMIT : Sta Z Z.heap "com/example/tributary/tributary/source/sparql/LettingGo" "DRAIN_LIMIT" "J" (.long (1000000000 : Int64)) := H
  obtain ⟨E_a, F_givenUp_a, F_letGo_a, F_letGoAt_a, F_dropped_a⟩ := P
  refine g_aloadN C (pc' := 1) d5_0 rfl rfl rfl ?_
  refine g_getF C (pc' := 4) (wd hw 15 rfl) Via.refl d5_1 rfl F_letGo_a rfl ?_
  exact g_zreturn C d5_4 rfl rfl (Nat.le_of_ble_eq_true rfl) (Nat.le_of_ble_eq_true rfl) (⟨rfl, rfl⟩)
theorem d7_14 : decode prog_48_method_4_code 14 = .ok (.iconst 0, 1) := by decide +kernel
theorem d7_15 : decode prog_48_method_4_code 15 = .ok (.ireturn, 1) := by decide +kernel
set_option maxRecDepth 65536 in
set_option maxHeartbeats 40000000 in
theorem letGo_01 (l : Launch) (Z : State) (a0 : Array Value) (hw : ∀ d ∈ tables_1, d.before a0 Z = true) (n0 : Nat) (h : Heap) (O : Old Z n0 h)  (H : En Z ) (a : Addr) (ga : n0 ≤ a) (t dr : Int64) (q : Int64) (P : LG Z h a (0 : Int32) (1 : Int32) t dr) : Con l Z (⟨"com/example/tributary/tributary/source/sparql/LettingGo", "letGo", "(J)Z"⟩ : MethodName) prog_48_method_4_code 3 (some .boolean) ({ frames := 0, cells := 0, slots := 0, locals := 0 } : Room) #[(.ref a), (.long q)] h n0 (fun v h' => v = some (.int (0 : Int32)) ∧ h' = h) := by
  refine Con.mk (Ls := #[.val (.ref a), .val (.long q), .second]) (plainFor_of_name pn_0) (fun m => by first | (simp [entryFrame, mkF, argsToLocals, Value.category]; done) | rfl) (fun w C => ?_)
  replace C : Cx w l Z "com/example/tributary/tributary/source/sparql/LettingGo" prog_48_method_4_code 3 (some .boolean) "letGo" ({ frames := 0, cells := 0, slots := 0, locals := 0 } : Room) n0 := C
  have S_DRAIN_LIMIT : Sta Z Z.heap "com/example/tributary/tributary/source/sparql/LettingGo" "DRAIN_LIMIT" "J" (.long (1000000000 : Int64)) := H
  obtain ⟨E_a, F_givenUp_a, F_letGo_a, F_letGoAt_a, F_dropped_a⟩ := P
  refine g_aloadN C (pc' := 1) d7_0 rfl rfl rfl ?_
  refine g_getF C (pc' := 4) (wd hw 22 rfl) Via.refl d7_1 rfl F_givenUp_a rfl ?_
  refine g_ifN C (pc' := 7) d7_4 rfl (by decide) rfl ?_
  refine g_aloadN C (pc' := 8) d7_7 rfl rfl rfl ?_
  refine g_getF C (pc' := 11) (wd hw 15 rfl) Via.refl d7_8 rfl F_letGo_a rfl ?_
  refine g_ifN C (pc' := 14) d7_11 rfl (by decide) rfl ?_
  refine g_iconst C (pc' := 15) (v := (0 : Int32)) d7_14 (by decide) rfl ?_
  exact g_zreturn C d7_15 rfl rfl (Nat.le_of_ble_eq_true rfl) (Nat.le_of_ble_eq_true rfl) (⟨rfl, rfl⟩)
theorem d3_7 : decode prog_48_method_6_code 7 = .ok (.aload_n 0, 1) := by decide +kernel
theorem d3_8 : decode prog_48_method_6_code 8 = .ok (.getfield 7, 3) := by decide +kernel
theorem d3_11 : decode prog_48_method_6_code 11 = .ok (.ifCond .eq 5, 3) := by decide +kernel
theorem d3_16 : decode prog_48_method_6_code 16 = .ok (.aload_n 0, 1) := by decide +kernel
theorem d3_17 : decode prog_48_method_6_code 17 = .ok (.dup, 1) := by decide +kernel
theorem d3_18 : decode prog_48_method_6_code 18 = .ok (.getfield 20, 3) := by decide +kernel
theorem d3_21 : decode prog_48_method_6_code 21 = .ok (.lload_n 1, 1) := by decide +kernel
theorem d3_22 : decode prog_48_method_6_code 22 = .ok (.ladd, 1) := by decide +kernel
theorem d3_23 : decode prog_48_method_6_code 23 = .ok (.putfield 20, 3) := by decide +kernel
theorem d3_26 : decode prog_48_method_6_code 26 = .ok (.aload_n 0, 1) := by decide +kernel
theorem d3_27 : decode prog_48_method_6_code 27 = .ok (.aload_n 0, 1) := by decide +kernel
theorem d3_28 : decode prog_48_method_6_code 28 = .ok (.getfield 20, 3) := by decide +kernel
theorem d3_31 : decode prog_48_method_6_code 31 = .ok (.ldc2_w 23, 3) := by decide +kernel
theorem d3_34 : decode prog_48_method_6_code 34 = .ok (.lcmp, 1) := by decide +kernel
theorem d3_35 : decode prog_48_method_6_code 35 = .ok (.ifCond .le 7, 3) := by decide +kernel
theorem d3_42 : decode prog_48_method_6_code 42 = .ok (.iconst 0, 1) := by decide +kernel
theorem d3_43 : decode prog_48_method_6_code 43 = .ok (.putfield 7, 3) := by decide +kernel
theorem d3_46 : decode prog_48_method_6_code 46 = .ok (.iconst 1, 1) := by decide +kernel
theorem d3_47 : decode prog_48_method_6_code 47 = .ok (.ireturn, 1) := by decide +kernel
set_option maxRecDepth 65536 in
set_option maxHeartbeats 40000000 in
theorem drops_0 (l : Launch) (Z : State) (a0 : Array Value) (hw : ∀ d ∈ tables_1, d.before a0 Z = true) (n0 : Nat) (h : Heap) (O : Old Z n0 h)  (H : En Z ) (a : Addr) (ga : n0 ≤ a) (t dr : Int64) (q : Int64) (hb : ¬ 8192 < dr + q) (P : LG Z h a (0 : Int32) (1 : Int32) t dr) : Con l Z (⟨"com/example/tributary/tributary/source/sparql/LettingGo", "drops", "(J)Z"⟩ : MethodName) prog_48_method_6_code 3 (some .boolean) ({ frames := 0, cells := 0, slots := 0, locals := 0 } : Room) #[(.ref a), (.long q)] h n0 (fun v h' => v = some (.int (1 : Int32)) ∧ Keep h h' [a] ∧ LG Z h' a (0 : Int32) (1 : Int32) t (dr + q)) := by
  refine Con.mk (Ls := #[.val (.ref a), .val (.long q), .second]) (plainFor_of_name pn_0) (fun m => by first | (simp [entryFrame, mkF, argsToLocals, Value.category]; done) | rfl) (fun w C => ?_)
  replace C : Cx w l Z "com/example/tributary/tributary/source/sparql/LettingGo" prog_48_method_6_code 3 (some .boolean) "drops" ({ frames := 0, cells := 0, slots := 0, locals := 0 } : Room) n0 := C
  have S_DRAIN_LIMIT : Sta Z Z.heap "com/example/tributary/tributary/source/sparql/LettingGo" "DRAIN_LIMIT" "J" (.long (1000000000 : Int64)) := H
  obtain ⟨E_a, F_givenUp_a, F_letGo_a, F_letGoAt_a, F_dropped_a⟩ := P
  refine g_aloadN C (pc' := 1) d3_0 rfl rfl rfl ?_
  refine g_getF C (pc' := 4) (wd hw 15 rfl) Via.refl d3_1 rfl F_letGo_a rfl ?_
  refine g_ifN C (pc' := 7) d3_4 rfl (by decide) rfl ?_
  refine g_aloadN C (pc' := 8) d3_7 rfl rfl rfl ?_
  refine g_getF C (pc' := 11) (wd hw 22 rfl) Via.refl d3_8 rfl F_givenUp_a rfl ?_
  refine g_ifY C (pc' := 16) d3_11 rfl (by decide) (by decide) rfl ?_
  refine g_aloadN C (pc' := 17) d3_16 rfl rfl rfl ?_
  refine g_dup C (pc' := 18) d3_17 rfl rfl rfl ?_
  refine g_getF C (pc' := 21) (wd hw 41 rfl) Via.refl d3_18 rfl F_dropped_a rfl ?_
  refine g_lloadN C (pc' := 22) d3_21 rfl rfl ?_
  refine g_ladd C (pc' := 23) d3_22 rfl rfl ?_
  refine g_putF C (pc' := 26) (ty := .long) (wd hw 41 rfl) Via.refl d3_23 rfl F_dropped_a E_a (Or.inl (wd hw 42 rfl)) (wd hw 1 rfl) (by decide) rfl rfl ga rfl (fun h28 W29 => ?_)
  have f30 := O.wr W29 ga
  have f31 := E_a.wr W29
  have f32 := F_givenUp_a.other W29 (Or.inr (slot_ne (Or.inl (wd hw 23 rfl)) (Or.inl (wd hw 42 rfl)) (by decide) (t := .boolean) (t' := .long) (by decide) (by decide)))
  have f33 := F_letGo_a.other W29 (Or.inr (slot_ne (Or.inl (wd hw 16 rfl)) (Or.inl (wd hw 42 rfl)) (by decide) (t := .boolean) (t' := .long) (by decide) (by decide)))
  have f34 := F_letGoAt_a.other W29 (Or.inr (slot_ne (Or.inl (wd hw 40 rfl)) (Or.inl (wd hw 42 rfl)) (by decide) (t := .long) (t' := .long) (by decide) (by decide)))
  have f35 := F_dropped_a.same W29
  have f36 := (Keep.refl h [a]).wr W29 (Or.inl (List.mem_of_getElem? (i := 0) rfl))
  refine g_aloadN C (pc' := 27) d3_26 rfl rfl rfl ?_
  refine g_aloadN C (pc' := 28) d3_27 rfl rfl rfl ?_
  refine g_getF C (pc' := 31) (wd hw 41 rfl) Via.refl d3_28 rfl f35 rfl ?_
  refine g_ldc2Long C (pc' := 34) (wd hw 43 rfl) d3_31 rfl ?_
  refine g_lcmp C (pc' := 35) d3_34 rfl rfl ?_
  refine g_ifY C (pc' := 42) d3_35 rfl (says_t (cd := .le) (fun q => hb ((lw_gt _ _).mp q))) (by decide) rfl ?_
  refine g_iconst C (pc' := 43) (v := (0 : Int32)) d3_42 (by decide) rfl ?_
  refine g_putFN C (pc' := 46) (v' := (.int (0 : Int32))) (ty := .boolean) (wd hw 22 rfl) Via.refl d3_43 rfl f32 f31 (Or.inl (wd hw 23 rfl)) (wd hw 1 rfl) (by decide) rfl rfl ga rfl (fun h37 W38 => ?_)
  have f39 := f30.wr W38 ga
  have f40 := f31.wr W38
  have f41 := f32.same W38
  have f42 := f33.other W38 (Or.inr (slot_ne (Or.inl (wd hw 16 rfl)) (Or.inl (wd hw 23 rfl)) (by decide) (t := .boolean) (t' := .boolean) (by decide) (by decide)))
  have f43 := f34.other W38 (Or.inr (slot_ne (Or.inl (wd hw 40 rfl)) (Or.inl (wd hw 23 rfl)) (by decide) (t := .long) (t' := .boolean) (by decide) (by decide)))
  have f44 := f35.other W38 (Or.inr (slot_ne (Or.inl (wd hw 42 rfl)) (Or.inl (wd hw 23 rfl)) (by decide) (t := .long) (t' := .boolean) (by decide) (by decide)))
  have f45 := f36.wr W38 (Or.inl (List.mem_of_getElem? (i := 0) rfl))
  refine g_iconst C (pc' := 47) (v := (1 : Int32)) d3_46 (by decide) rfl ?_
  exact g_zreturn C d3_47 rfl rfl (Nat.le_of_ble_eq_true rfl) (Nat.le_of_ble_eq_true rfl) (⟨rfl, f45, ⟨f40, f41, f42, f43, f44⟩⟩)
theorem d3_38 : decode prog_48_method_6_code 38 = .ok (.iconst 1, 1) := by decide +kernel
theorem d3_39 : decode prog_48_method_6_code 39 = .ok (.goto 4, 3) := by decide +kernel
set_option maxRecDepth 65536 in
set_option maxHeartbeats 40000000 in
theorem drops_1 (l : Launch) (Z : State) (a0 : Array Value) (hw : ∀ d ∈ tables_1, d.before a0 Z = true) (n0 : Nat) (h : Heap) (O : Old Z n0 h)  (H : En Z ) (a : Addr) (ga : n0 ≤ a) (t dr : Int64) (q : Int64) (hb : 8192 < dr + q) (P : LG Z h a (0 : Int32) (1 : Int32) t dr) : Con l Z (⟨"com/example/tributary/tributary/source/sparql/LettingGo", "drops", "(J)Z"⟩ : MethodName) prog_48_method_6_code 3 (some .boolean) ({ frames := 0, cells := 0, slots := 0, locals := 0 } : Room) #[(.ref a), (.long q)] h n0 (fun v h' => v = some (.int (1 : Int32)) ∧ Keep h h' [a] ∧ LG Z h' a (1 : Int32) (1 : Int32) t (dr + q)) := by
  refine Con.mk (Ls := #[.val (.ref a), .val (.long q), .second]) (plainFor_of_name pn_0) (fun m => by first | (simp [entryFrame, mkF, argsToLocals, Value.category]; done) | rfl) (fun w C => ?_)
  replace C : Cx w l Z "com/example/tributary/tributary/source/sparql/LettingGo" prog_48_method_6_code 3 (some .boolean) "drops" ({ frames := 0, cells := 0, slots := 0, locals := 0 } : Room) n0 := C
  have S_DRAIN_LIMIT : Sta Z Z.heap "com/example/tributary/tributary/source/sparql/LettingGo" "DRAIN_LIMIT" "J" (.long (1000000000 : Int64)) := H
  obtain ⟨E_a, F_givenUp_a, F_letGo_a, F_letGoAt_a, F_dropped_a⟩ := P
  refine g_aloadN C (pc' := 1) d3_0 rfl rfl rfl ?_
  refine g_getF C (pc' := 4) (wd hw 15 rfl) Via.refl d3_1 rfl F_letGo_a rfl ?_
  refine g_ifN C (pc' := 7) d3_4 rfl (by decide) rfl ?_
  refine g_aloadN C (pc' := 8) d3_7 rfl rfl rfl ?_
  refine g_getF C (pc' := 11) (wd hw 22 rfl) Via.refl d3_8 rfl F_givenUp_a rfl ?_
  refine g_ifY C (pc' := 16) d3_11 rfl (by decide) (by decide) rfl ?_
  refine g_aloadN C (pc' := 17) d3_16 rfl rfl rfl ?_
  refine g_dup C (pc' := 18) d3_17 rfl rfl rfl ?_
  refine g_getF C (pc' := 21) (wd hw 41 rfl) Via.refl d3_18 rfl F_dropped_a rfl ?_
  refine g_lloadN C (pc' := 22) d3_21 rfl rfl ?_
  refine g_ladd C (pc' := 23) d3_22 rfl rfl ?_
  refine g_putF C (pc' := 26) (ty := .long) (wd hw 41 rfl) Via.refl d3_23 rfl F_dropped_a E_a (Or.inl (wd hw 42 rfl)) (wd hw 1 rfl) (by decide) rfl rfl ga rfl (fun h46 W47 => ?_)
  have f48 := O.wr W47 ga
  have f49 := E_a.wr W47
  have f50 := F_givenUp_a.other W47 (Or.inr (slot_ne (Or.inl (wd hw 23 rfl)) (Or.inl (wd hw 42 rfl)) (by decide) (t := .boolean) (t' := .long) (by decide) (by decide)))
  have f51 := F_letGo_a.other W47 (Or.inr (slot_ne (Or.inl (wd hw 16 rfl)) (Or.inl (wd hw 42 rfl)) (by decide) (t := .boolean) (t' := .long) (by decide) (by decide)))
  have f52 := F_letGoAt_a.other W47 (Or.inr (slot_ne (Or.inl (wd hw 40 rfl)) (Or.inl (wd hw 42 rfl)) (by decide) (t := .long) (t' := .long) (by decide) (by decide)))
  have f53 := F_dropped_a.same W47
  have f54 := (Keep.refl h [a]).wr W47 (Or.inl (List.mem_of_getElem? (i := 0) rfl))
  refine g_aloadN C (pc' := 27) d3_26 rfl rfl rfl ?_
  refine g_aloadN C (pc' := 28) d3_27 rfl rfl rfl ?_
  refine g_getF C (pc' := 31) (wd hw 41 rfl) Via.refl d3_28 rfl f53 rfl ?_
  refine g_ldc2Long C (pc' := 34) (wd hw 43 rfl) d3_31 rfl ?_
  refine g_lcmp C (pc' := 35) d3_34 rfl rfl ?_
  refine g_ifN C (pc' := 38) d3_35 rfl (says_f (cd := .le) (fun q => q ((lw_gt _ _).mpr hb))) rfl ?_
  refine g_iconst C (pc' := 39) (v := (1 : Int32)) d3_38 (by decide) rfl ?_
  refine g_goto C (pc' := 43) d3_39 (by decide) rfl ?_
  refine g_putFN C (pc' := 46) (v' := (.int (1 : Int32))) (ty := .boolean) (wd hw 22 rfl) Via.refl d3_43 rfl f50 f49 (Or.inl (wd hw 23 rfl)) (wd hw 1 rfl) (by decide) rfl rfl ga rfl (fun h55 W56 => ?_)
  have f57 := f48.wr W56 ga
  have f58 := f49.wr W56
  have f59 := f50.same W56
  have f60 := f51.other W56 (Or.inr (slot_ne (Or.inl (wd hw 16 rfl)) (Or.inl (wd hw 23 rfl)) (by decide) (t := .boolean) (t' := .boolean) (by decide) (by decide)))
  have f61 := f52.other W56 (Or.inr (slot_ne (Or.inl (wd hw 40 rfl)) (Or.inl (wd hw 23 rfl)) (by decide) (t := .long) (t' := .boolean) (by decide) (by decide)))
  have f62 := f53.other W56 (Or.inr (slot_ne (Or.inl (wd hw 42 rfl)) (Or.inl (wd hw 23 rfl)) (by decide) (t := .long) (t' := .boolean) (by decide) (by decide)))
  have f63 := f54.wr W56 (Or.inl (List.mem_of_getElem? (i := 0) rfl))
  refine g_iconst C (pc' := 47) (v := (1 : Int32)) d3_46 (by decide) rfl ?_
  exact g_zreturn C d3_47 rfl rfl (Nat.le_of_ble_eq_true rfl) (Nat.le_of_ble_eq_true rfl) (⟨rfl, f63, ⟨f58, f59, f60, f61, f62⟩⟩)
set_option maxRecDepth 65536 in
set_option maxHeartbeats 40000000 in
theorem givenUp_10 (l : Launch) (Z : State) (a0 : Array Value) (hw : ∀ d ∈ tables_1, d.before a0 Z = true) (n0 : Nat) (h : Heap) (O : Old Z n0 h)  (H : En Z ) (a : Addr) (ga : n0 ≤ a) (t dr : Int64) (P : LG Z h a (1 : Int32) (0 : Int32) t dr) : Con l Z (⟨"com/example/tributary/tributary/source/sparql/LettingGo", "givenUp", "()Z"⟩ : MethodName) prog_48_method_2_code 1 (some .boolean) ({ frames := 0, cells := 0, slots := 0, locals := 0 } : Room) #[(.ref a)] h n0 (fun v h' => v = some (.int (1 : Int32)) ∧ h' = h) := by
  refine Con.mk (Ls := #[.val (.ref a)]) (plainFor_of_name pn_0) (fun m => by first | (simp [entryFrame, mkF, argsToLocals, Value.category]; done) | rfl) (fun w C => ?_)
  replace C : Cx w l Z "com/example/tributary/tributary/source/sparql/LettingGo" prog_48_method_2_code 1 (some .boolean) "givenUp" ({ frames := 0, cells := 0, slots := 0, locals := 0 } : Room) n0 := C
  have S_DRAIN_LIMIT : Sta Z Z.heap "com/example/tributary/tributary/source/sparql/LettingGo" "DRAIN_LIMIT" "J" (.long (1000000000 : Int64)) := H
  obtain ⟨E_a, F_givenUp_a, F_letGo_a, F_letGoAt_a, F_dropped_a⟩ := P
  refine g_aloadN C (pc' := 1) d4_0 rfl rfl rfl ?_
  refine g_getF C (pc' := 4) (wd hw 22 rfl) Via.refl d4_1 rfl F_givenUp_a rfl ?_
  exact g_zreturn C d4_4 rfl rfl (Nat.le_of_ble_eq_true rfl) (Nat.le_of_ble_eq_true rfl) (⟨rfl, rfl⟩)
set_option maxRecDepth 65536 in
set_option maxHeartbeats 40000000 in
theorem isLetGo_10 (l : Launch) (Z : State) (a0 : Array Value) (hw : ∀ d ∈ tables_1, d.before a0 Z = true) (n0 : Nat) (h : Heap) (O : Old Z n0 h)  (H : En Z ) (a : Addr) (ga : n0 ≤ a) (t dr : Int64) (P : LG Z h a (1 : Int32) (0 : Int32) t dr) : Con l Z (⟨"com/example/tributary/tributary/source/sparql/LettingGo", "isLetGo", "()Z"⟩ : MethodName) prog_48_method_3_code 1 (some .boolean) ({ frames := 0, cells := 0, slots := 0, locals := 0 } : Room) #[(.ref a)] h n0 (fun v h' => v = some (.int (0 : Int32)) ∧ h' = h) := by
  refine Con.mk (Ls := #[.val (.ref a)]) (plainFor_of_name pn_0) (fun m => by first | (simp [entryFrame, mkF, argsToLocals, Value.category]; done) | rfl) (fun w C => ?_)
  replace C : Cx w l Z "com/example/tributary/tributary/source/sparql/LettingGo" prog_48_method_3_code 1 (some .boolean) "isLetGo" ({ frames := 0, cells := 0, slots := 0, locals := 0 } : Room) n0 := C
  have S_DRAIN_LIMIT : Sta Z Z.heap "com/example/tributary/tributary/source/sparql/LettingGo" "DRAIN_LIMIT" "J" (.long (1000000000 : Int64)) := H
  obtain ⟨E_a, F_givenUp_a, F_letGo_a, F_letGoAt_a, F_dropped_a⟩ := P
  refine g_aloadN C (pc' := 1) d5_0 rfl rfl rfl ?_
  refine g_getF C (pc' := 4) (wd hw 15 rfl) Via.refl d5_1 rfl F_letGo_a rfl ?_
  exact g_zreturn C d5_4 rfl rfl (Nat.le_of_ble_eq_true rfl) (Nat.le_of_ble_eq_true rfl) (⟨rfl, rfl⟩)
set_option maxRecDepth 65536 in
set_option maxHeartbeats 40000000 in
theorem giveUp_10 (l : Launch) (Z : State) (a0 : Array Value) (hw : ∀ d ∈ tables_1, d.before a0 Z = true) (n0 : Nat) (h : Heap) (O : Old Z n0 h)  (H : En Z ) (a : Addr) (ga : n0 ≤ a) (t dr : Int64) (P : LG Z h a (1 : Int32) (0 : Int32) t dr) : Con l Z (⟨"com/example/tributary/tributary/source/sparql/LettingGo", "giveUp", "()Z"⟩ : MethodName) prog_48_method_5_code 1 (some .boolean) ({ frames := 0, cells := 0, slots := 0, locals := 0 } : Room) #[(.ref a)] h n0 (fun v h' => v = some (.int (1 : Int32)) ∧ Keep h h' [a] ∧ LG Z h' a (1 : Int32) (0 : Int32) t dr) := by
  refine Con.mk (Ls := #[.val (.ref a)]) (plainFor_of_name pn_0) (fun m => by first | (simp [entryFrame, mkF, argsToLocals, Value.category]; done) | rfl) (fun w C => ?_)
  replace C : Cx w l Z "com/example/tributary/tributary/source/sparql/LettingGo" prog_48_method_5_code 1 (some .boolean) "giveUp" ({ frames := 0, cells := 0, slots := 0, locals := 0 } : Room) n0 := C
  have S_DRAIN_LIMIT : Sta Z Z.heap "com/example/tributary/tributary/source/sparql/LettingGo" "DRAIN_LIMIT" "J" (.long (1000000000 : Int64)) := H
  obtain ⟨E_a, F_givenUp_a, F_letGo_a, F_letGoAt_a, F_dropped_a⟩ := P
  refine g_aloadN C (pc' := 1) d6_0 rfl rfl rfl ?_
  refine g_getF C (pc' := 4) (wd hw 15 rfl) Via.refl d6_1 rfl F_letGo_a rfl ?_
  refine g_ifY C (pc' := 9) d6_4 rfl (by decide) (by decide) rfl ?_
  refine g_aloadN C (pc' := 10) d6_9 rfl rfl rfl ?_
  refine g_iconst C (pc' := 11) (v := (1 : Int32)) d6_10 (by decide) rfl ?_
  refine g_putFN C (pc' := 14) (v' := (.int (1 : Int32))) (ty := .boolean) (wd hw 22 rfl) Via.refl d6_11 rfl F_givenUp_a E_a (Or.inl (wd hw 23 rfl)) (wd hw 1 rfl) (by decide) rfl rfl ga rfl (fun h64 W65 => ?_)
  have f66 := O.wr W65 ga
  have f67 := E_a.wr W65
  have f68 := F_givenUp_a.same W65
  have f69 := F_letGo_a.other W65 (Or.inr (slot_ne (Or.inl (wd hw 16 rfl)) (Or.inl (wd hw 23 rfl)) (by decide) (t := .boolean) (t' := .boolean) (by decide) (by decide)))
  have f70 := F_letGoAt_a.other W65 (Or.inr (slot_ne (Or.inl (wd hw 40 rfl)) (Or.inl (wd hw 23 rfl)) (by decide) (t := .long) (t' := .boolean) (by decide) (by decide)))
  have f71 := F_dropped_a.other W65 (Or.inr (slot_ne (Or.inl (wd hw 42 rfl)) (Or.inl (wd hw 23 rfl)) (by decide) (t := .long) (t' := .boolean) (by decide) (by decide)))
  have f72 := (Keep.refl h [a]).wr W65 (Or.inl (List.mem_of_getElem? (i := 0) rfl))
  refine g_iconst C (pc' := 15) (v := (1 : Int32)) d6_14 (by decide) rfl ?_
  exact g_zreturn C d6_15 rfl rfl (Nat.le_of_ble_eq_true rfl) (Nat.le_of_ble_eq_true rfl) (⟨rfl, f72, ⟨f67, f68, f69, f70, f71⟩⟩)
set_option maxRecDepth 65536 in
set_option maxHeartbeats 40000000 in
theorem letGo_10 (l : Launch) (Z : State) (a0 : Array Value) (hw : ∀ d ∈ tables_1, d.before a0 Z = true) (n0 : Nat) (h : Heap) (O : Old Z n0 h)  (H : En Z ) (a : Addr) (ga : n0 ≤ a) (t dr : Int64) (q : Int64) (P : LG Z h a (1 : Int32) (0 : Int32) t dr) : Con l Z (⟨"com/example/tributary/tributary/source/sparql/LettingGo", "letGo", "(J)Z"⟩ : MethodName) prog_48_method_4_code 3 (some .boolean) ({ frames := 0, cells := 0, slots := 0, locals := 0 } : Room) #[(.ref a), (.long q)] h n0 (fun v h' => v = some (.int (0 : Int32)) ∧ h' = h) := by
  refine Con.mk (Ls := #[.val (.ref a), .val (.long q), .second]) (plainFor_of_name pn_0) (fun m => by first | (simp [entryFrame, mkF, argsToLocals, Value.category]; done) | rfl) (fun w C => ?_)
  replace C : Cx w l Z "com/example/tributary/tributary/source/sparql/LettingGo" prog_48_method_4_code 3 (some .boolean) "letGo" ({ frames := 0, cells := 0, slots := 0, locals := 0 } : Room) n0 := C
  have S_DRAIN_LIMIT : Sta Z Z.heap "com/example/tributary/tributary/source/sparql/LettingGo" "DRAIN_LIMIT" "J" (.long (1000000000 : Int64)) := H
  obtain ⟨E_a, F_givenUp_a, F_letGo_a, F_letGoAt_a, F_dropped_a⟩ := P
  refine g_aloadN C (pc' := 1) d7_0 rfl rfl rfl ?_
  refine g_getF C (pc' := 4) (wd hw 22 rfl) Via.refl d7_1 rfl F_givenUp_a rfl ?_
  refine g_ifY C (pc' := 14) d7_4 rfl (by decide) (by decide) rfl ?_
  refine g_iconst C (pc' := 15) (v := (0 : Int32)) d7_14 (by decide) rfl ?_
  exact g_zreturn C d7_15 rfl rfl (Nat.le_of_ble_eq_true rfl) (Nat.le_of_ble_eq_true rfl) (⟨rfl, rfl⟩)
set_option maxRecDepth 65536 in
set_option maxHeartbeats 40000000 in
theorem drops_10 (l : Launch) (Z : State) (a0 : Array Value) (hw : ∀ d ∈ tables_1, d.before a0 Z = true) (n0 : Nat) (h : Heap) (O : Old Z n0 h)  (H : En Z ) (a : Addr) (ga : n0 ≤ a) (t dr : Int64) (q : Int64) (P : LG Z h a (1 : Int32) (0 : Int32) t dr) : Con l Z (⟨"com/example/tributary/tributary/source/sparql/LettingGo", "drops", "(J)Z"⟩ : MethodName) prog_48_method_6_code 3 (some .boolean) ({ frames := 0, cells := 0, slots := 0, locals := 0 } : Room) #[(.ref a), (.long q)] h n0 (fun v h' => v = some (.int (0 : Int32)) ∧ h' = h) := by
  refine Con.mk (Ls := #[.val (.ref a), .val (.long q), .second]) (plainFor_of_name pn_0) (fun m => by first | (simp [entryFrame, mkF, argsToLocals, Value.category]; done) | rfl) (fun w C => ?_)
  replace C : Cx w l Z "com/example/tributary/tributary/source/sparql/LettingGo" prog_48_method_6_code 3 (some .boolean) "drops" ({ frames := 0, cells := 0, slots := 0, locals := 0 } : Room) n0 := C
  have S_DRAIN_LIMIT : Sta Z Z.heap "com/example/tributary/tributary/source/sparql/LettingGo" "DRAIN_LIMIT" "J" (.long (1000000000 : Int64)) := H
  obtain ⟨E_a, F_givenUp_a, F_letGo_a, F_letGoAt_a, F_dropped_a⟩ := P
  refine g_aloadN C (pc' := 1) d3_0 rfl rfl rfl ?_
  refine g_getF C (pc' := 4) (wd hw 15 rfl) Via.refl d3_1 rfl F_letGo_a rfl ?_
  refine g_ifY C (pc' := 14) d3_4 rfl (by decide) (by decide) rfl ?_
  refine g_iconst C (pc' := 15) (v := (0 : Int32)) d3_14 (by decide) rfl ?_
  exact g_zreturn C d3_15 rfl rfl (Nat.le_of_ble_eq_true rfl) (Nat.le_of_ble_eq_true rfl) (⟨rfl, rfl⟩)
set_option maxRecDepth 65536 in
set_option maxHeartbeats 40000000 in
theorem givenUp_11 (l : Launch) (Z : State) (a0 : Array Value) (hw : ∀ d ∈ tables_1, d.before a0 Z = true) (n0 : Nat) (h : Heap) (O : Old Z n0 h)  (H : En Z ) (a : Addr) (ga : n0 ≤ a) (t dr : Int64) (P : LG Z h a (1 : Int32) (1 : Int32) t dr) : Con l Z (⟨"com/example/tributary/tributary/source/sparql/LettingGo", "givenUp", "()Z"⟩ : MethodName) prog_48_method_2_code 1 (some .boolean) ({ frames := 0, cells := 0, slots := 0, locals := 0 } : Room) #[(.ref a)] h n0 (fun v h' => v = some (.int (1 : Int32)) ∧ h' = h) := by
  refine Con.mk (Ls := #[.val (.ref a)]) (plainFor_of_name pn_0) (fun m => by first | (simp [entryFrame, mkF, argsToLocals, Value.category]; done) | rfl) (fun w C => ?_)
  replace C : Cx w l Z "com/example/tributary/tributary/source/sparql/LettingGo" prog_48_method_2_code 1 (some .boolean) "givenUp" ({ frames := 0, cells := 0, slots := 0, locals := 0 } : Room) n0 := C
  have S_DRAIN_LIMIT : Sta Z Z.heap "com/example/tributary/tributary/source/sparql/LettingGo" "DRAIN_LIMIT" "J" (.long (1000000000 : Int64)) := H
  obtain ⟨E_a, F_givenUp_a, F_letGo_a, F_letGoAt_a, F_dropped_a⟩ := P
  refine g_aloadN C (pc' := 1) d4_0 rfl rfl rfl ?_
  refine g_getF C (pc' := 4) (wd hw 22 rfl) Via.refl d4_1 rfl F_givenUp_a rfl ?_
  exact g_zreturn C d4_4 rfl rfl (Nat.le_of_ble_eq_true rfl) (Nat.le_of_ble_eq_true rfl) (⟨rfl, rfl⟩)
set_option maxRecDepth 65536 in
set_option maxHeartbeats 40000000 in
theorem isLetGo_11 (l : Launch) (Z : State) (a0 : Array Value) (hw : ∀ d ∈ tables_1, d.before a0 Z = true) (n0 : Nat) (h : Heap) (O : Old Z n0 h)  (H : En Z ) (a : Addr) (ga : n0 ≤ a) (t dr : Int64) (P : LG Z h a (1 : Int32) (1 : Int32) t dr) : Con l Z (⟨"com/example/tributary/tributary/source/sparql/LettingGo", "isLetGo", "()Z"⟩ : MethodName) prog_48_method_3_code 1 (some .boolean) ({ frames := 0, cells := 0, slots := 0, locals := 0 } : Room) #[(.ref a)] h n0 (fun v h' => v = some (.int (1 : Int32)) ∧ h' = h) := by
  refine Con.mk (Ls := #[.val (.ref a)]) (plainFor_of_name pn_0) (fun m => by first | (simp [entryFrame, mkF, argsToLocals, Value.category]; done) | rfl) (fun w C => ?_)
  replace C : Cx w l Z "com/example/tributary/tributary/source/sparql/LettingGo" prog_48_method_3_code 1 (some .boolean) "isLetGo" ({ frames := 0, cells := 0, slots := 0, locals := 0 } : Room) n0 := C
  have S_DRAIN_LIMIT : Sta Z Z.heap "com/example/tributary/tributary/source/sparql/LettingGo" "DRAIN_LIMIT" "J" (.long (1000000000 : Int64)) := H
  obtain ⟨E_a, F_givenUp_a, F_letGo_a, F_letGoAt_a, F_dropped_a⟩ := P
  refine g_aloadN C (pc' := 1) d5_0 rfl rfl rfl ?_
  refine g_getF C (pc' := 4) (wd hw 15 rfl) Via.refl d5_1 rfl F_letGo_a rfl ?_
  exact g_zreturn C d5_4 rfl rfl (Nat.le_of_ble_eq_true rfl) (Nat.le_of_ble_eq_true rfl) (⟨rfl, rfl⟩)
set_option maxRecDepth 65536 in
set_option maxHeartbeats 40000000 in
theorem letGo_11 (l : Launch) (Z : State) (a0 : Array Value) (hw : ∀ d ∈ tables_1, d.before a0 Z = true) (n0 : Nat) (h : Heap) (O : Old Z n0 h)  (H : En Z ) (a : Addr) (ga : n0 ≤ a) (t dr : Int64) (q : Int64) (P : LG Z h a (1 : Int32) (1 : Int32) t dr) : Con l Z (⟨"com/example/tributary/tributary/source/sparql/LettingGo", "letGo", "(J)Z"⟩ : MethodName) prog_48_method_4_code 3 (some .boolean) ({ frames := 0, cells := 0, slots := 0, locals := 0 } : Room) #[(.ref a), (.long q)] h n0 (fun v h' => v = some (.int (0 : Int32)) ∧ h' = h) := by
  refine Con.mk (Ls := #[.val (.ref a), .val (.long q), .second]) (plainFor_of_name pn_0) (fun m => by first | (simp [entryFrame, mkF, argsToLocals, Value.category]; done) | rfl) (fun w C => ?_)
  replace C : Cx w l Z "com/example/tributary/tributary/source/sparql/LettingGo" prog_48_method_4_code 3 (some .boolean) "letGo" ({ frames := 0, cells := 0, slots := 0, locals := 0 } : Room) n0 := C
  have S_DRAIN_LIMIT : Sta Z Z.heap "com/example/tributary/tributary/source/sparql/LettingGo" "DRAIN_LIMIT" "J" (.long (1000000000 : Int64)) := H
  obtain ⟨E_a, F_givenUp_a, F_letGo_a, F_letGoAt_a, F_dropped_a⟩ := P
  refine g_aloadN C (pc' := 1) d7_0 rfl rfl rfl ?_
  refine g_getF C (pc' := 4) (wd hw 22 rfl) Via.refl d7_1 rfl F_givenUp_a rfl ?_
  refine g_ifY C (pc' := 14) d7_4 rfl (by decide) (by decide) rfl ?_
  refine g_iconst C (pc' := 15) (v := (0 : Int32)) d7_14 (by decide) rfl ?_
  exact g_zreturn C d7_15 rfl rfl (Nat.le_of_ble_eq_true rfl) (Nat.le_of_ble_eq_true rfl) (⟨rfl, rfl⟩)
set_option maxRecDepth 65536 in
set_option maxHeartbeats 40000000 in
theorem drops_11 (l : Launch) (Z : State) (a0 : Array Value) (hw : ∀ d ∈ tables_1, d.before a0 Z = true) (n0 : Nat) (h : Heap) (O : Old Z n0 h)  (H : En Z ) (a : Addr) (ga : n0 ≤ a) (t dr : Int64) (q : Int64) (P : LG Z h a (1 : Int32) (1 : Int32) t dr) : Con l Z (⟨"com/example/tributary/tributary/source/sparql/LettingGo", "drops", "(J)Z"⟩ : MethodName) prog_48_method_6_code 3 (some .boolean) ({ frames := 0, cells := 0, slots := 0, locals := 0 } : Room) #[(.ref a), (.long q)] h n0 (fun v h' => v = some (.int (0 : Int32)) ∧ h' = h) := by
  refine Con.mk (Ls := #[.val (.ref a), .val (.long q), .second]) (plainFor_of_name pn_0) (fun m => by first | (simp [entryFrame, mkF, argsToLocals, Value.category]; done) | rfl) (fun w C => ?_)
  replace C : Cx w l Z "com/example/tributary/tributary/source/sparql/LettingGo" prog_48_method_6_code 3 (some .boolean) "drops" ({ frames := 0, cells := 0, slots := 0, locals := 0 } : Room) n0 := C
  have S_DRAIN_LIMIT : Sta Z Z.heap "com/example/tributary/tributary/source/sparql/LettingGo" "DRAIN_LIMIT" "J" (.long (1000000000 : Int64)) := H
  obtain ⟨E_a, F_givenUp_a, F_letGo_a, F_letGoAt_a, F_dropped_a⟩ := P
  refine g_aloadN C (pc' := 1) d3_0 rfl rfl rfl ?_
  refine g_getF C (pc' := 4) (wd hw 15 rfl) Via.refl d3_1 rfl F_letGo_a rfl ?_
  refine g_ifN C (pc' := 7) d3_4 rfl (by decide) rfl ?_
  refine g_aloadN C (pc' := 8) d3_7 rfl rfl rfl ?_
  refine g_getF C (pc' := 11) (wd hw 22 rfl) Via.refl d3_8 rfl F_givenUp_a rfl ?_
  refine g_ifN C (pc' := 14) d3_11 rfl (by decide) rfl ?_
  refine g_iconst C (pc' := 15) (v := (0 : Int32)) d3_14 (by decide) rfl ?_
  exact g_zreturn C d3_15 rfl rfl (Nat.le_of_ble_eq_true rfl) (Nat.le_of_ble_eq_true rfl) (⟨rfl, rfl⟩)
theorem d8_0 : decode prog_48_method_7_code 0 = .ok (.getstatic 25, 3) := by decide +kernel
theorem d8_3 : decode prog_48_method_7_code 3 = .ok (.lload_n 1, 1) := by decide +kernel
theorem d8_4 : decode prog_48_method_7_code 4 = .ok (.aload_n 0, 1) := by decide +kernel
theorem d8_5 : decode prog_48_method_7_code 5 = .ok (.getfield 16, 3) := by decide +kernel
theorem d8_8 : decode prog_48_method_7_code 8 = .ok (.lsub, 1) := by decide +kernel
theorem d8_9 : decode prog_48_method_7_code 9 = .ok (.lsub, 1) := by decide +kernel
theorem d8_10 : decode prog_48_method_7_code 10 = .ok (.lstore_n 3, 1) := by decide +kernel
theorem d8_11 : decode prog_48_method_7_code 11 = .ok (.aload_n 0, 1) := by decide +kernel
theorem d8_12 : decode prog_48_method_7_code 12 = .ok (.lload_n 3, 1) := by decide +kernel
theorem d8_13 : decode prog_48_method_7_code 13 = .ok (.lconst 0, 1) := by decide +kernel
theorem d8_14 : decode prog_48_method_7_code 14 = .ok (.lcmp, 1) := by decide +kernel
theorem d8_15 : decode prog_48_method_7_code 15 = .ok (.ifCond .gt 7, 3) := by decide +kernel
theorem d8_18 : decode prog_48_method_7_code 18 = .ok (.iconst 1, 1) := by decide +kernel
theorem d8_19 : decode prog_48_method_7_code 19 = .ok (.goto 4, 3) := by decide +kernel
theorem d8_23 : decode prog_48_method_7_code 23 = .ok (.putfield 7, 3) := by decide +kernel
theorem d8_26 : decode prog_48_method_7_code 26 = .ok (.lload_n 3, 1) := by decide +kernel
theorem d8_27 : decode prog_48_method_7_code 27 = .ok (.lreturn, 1) := by decide +kernel
set_option maxRecDepth 65536 in
set_option maxHeartbeats 40000000 in
theorem until_000 (l : Launch) (Z : State) (a0 : Array Value) (hw : ∀ d ∈ tables_1, d.before a0 Z = true) (n0 : Nat) (h : Heap) (O : Old Z n0 h)  (H : En Z ) (a : Addr) (ga : n0 ≤ a) (t dr : Int64) (q : Int64) (hb : ¬ (0 : Int64) < 1000000000 - (q - t)) (P : LG Z h a (0 : Int32) (0 : Int32) t dr) : Con l Z (⟨"com/example/tributary/tributary/source/sparql/LettingGo", "untilGivenUp", "(J)J"⟩ : MethodName) prog_48_method_7_code 5 (some .long) ({ frames := 0, cells := 0, slots := 0, locals := 0 } : Room) #[(.ref a), (.long q)] h n0 (fun v h' => v = some (.long ((1000000000 : Int64) - (q - t))) ∧ Keep h h' [a] ∧ LG Z h' a (1 : Int32) (0 : Int32) t dr) := by
  refine Con.mk (Ls := #[.val (.ref a), .val (.long q), .second, .unset, .unset]) (plainFor_of_name pn_0) (fun m => by first | (simp [entryFrame, mkF, argsToLocals, Value.category]; done) | rfl) (fun w C => ?_)
  replace C : Cx w l Z "com/example/tributary/tributary/source/sparql/LettingGo" prog_48_method_7_code 5 (some .long) "untilGivenUp" ({ frames := 0, cells := 0, slots := 0, locals := 0 } : Room) n0 := C
  have S_DRAIN_LIMIT : Sta Z Z.heap "com/example/tributary/tributary/source/sparql/LettingGo" "DRAIN_LIMIT" "J" (.long (1000000000 : Int64)) := H
  obtain ⟨E_a, F_givenUp_a, F_letGo_a, F_letGoAt_a, F_dropped_a⟩ := P
  refine g_getS C (pc' := 3) (wd hw 51 rfl) Via.refl d8_0 (S_DRAIN_LIMIT.ext O.2) rfl ?_
  refine g_lloadN C (pc' := 4) d8_3 rfl rfl ?_
  refine g_aloadN C (pc' := 5) d8_4 rfl rfl rfl ?_
  refine g_getF C (pc' := 8) (wd hw 39 rfl) Via.refl d8_5 rfl F_letGoAt_a rfl ?_
  refine g_lsub C (pc' := 9) d8_8 rfl rfl ?_
  refine g_lsub C (pc' := 10) d8_9 rfl rfl ?_
  refine g_lstoreN C (pc' := 11) (Ls' := #[.val (.ref a), .val (.long q), .second, .val (.long ((1000000000 : Int64) - (q - t))), .second]) d8_10 rfl rfl rfl ?_
  refine g_aloadN C (pc' := 12) d8_11 rfl rfl rfl ?_
  refine g_lloadN C (pc' := 13) d8_12 rfl rfl ?_
  refine g_lconst C (pc' := 14) (v := (0 : Int64)) d8_13 (by decide) rfl ?_
  refine g_lcmp C (pc' := 15) d8_14 rfl rfl ?_
  refine g_ifN C (pc' := 18) d8_15 rfl (says_f (cd := .gt) (fun q => hb ((lw_gt _ _).mp q))) rfl ?_
  refine g_iconst C (pc' := 19) (v := (1 : Int32)) d8_18 (by decide) rfl ?_
  refine g_goto C (pc' := 23) d8_19 (by decide) rfl ?_
  refine g_putFN C (pc' := 26) (v' := (.int (1 : Int32))) (ty := .boolean) (wd hw 22 rfl) Via.refl d8_23 rfl F_givenUp_a E_a (Or.inl (wd hw 23 rfl)) (wd hw 1 rfl) (by decide) rfl rfl ga rfl (fun h73 W74 => ?_)
  have f75 := O.wr W74 ga
  have f76 := E_a.wr W74
  have f77 := F_givenUp_a.same W74
  have f78 := F_letGo_a.other W74 (Or.inr (slot_ne (Or.inl (wd hw 16 rfl)) (Or.inl (wd hw 23 rfl)) (by decide) (t := .boolean) (t' := .boolean) (by decide) (by decide)))
  have f79 := F_letGoAt_a.other W74 (Or.inr (slot_ne (Or.inl (wd hw 40 rfl)) (Or.inl (wd hw 23 rfl)) (by decide) (t := .long) (t' := .boolean) (by decide) (by decide)))
  have f80 := F_dropped_a.other W74 (Or.inr (slot_ne (Or.inl (wd hw 42 rfl)) (Or.inl (wd hw 23 rfl)) (by decide) (t := .long) (t' := .boolean) (by decide) (by decide)))
  have f81 := (Keep.refl h [a]).wr W74 (Or.inl (List.mem_of_getElem? (i := 0) rfl))
  refine g_lloadN C (pc' := 27) d8_26 rfl rfl ?_
  exact g_lreturn C d8_27 rfl (Nat.le_of_ble_eq_true rfl) (Nat.le_of_ble_eq_true rfl) (⟨rfl, f81, ⟨f76, f77, f78, f79, f80⟩⟩)
theorem d8_22 : decode prog_48_method_7_code 22 = .ok (.iconst 0, 1) := by decide +kernel
set_option maxRecDepth 65536 in
set_option maxHeartbeats 40000000 in
theorem until_001 (l : Launch) (Z : State) (a0 : Array Value) (hw : ∀ d ∈ tables_1, d.before a0 Z = true) (n0 : Nat) (h : Heap) (O : Old Z n0 h)  (H : En Z ) (a : Addr) (ga : n0 ≤ a) (t dr : Int64) (q : Int64) (hb : (0 : Int64) < 1000000000 - (q - t)) (P : LG Z h a (0 : Int32) (0 : Int32) t dr) : Con l Z (⟨"com/example/tributary/tributary/source/sparql/LettingGo", "untilGivenUp", "(J)J"⟩ : MethodName) prog_48_method_7_code 5 (some .long) ({ frames := 0, cells := 0, slots := 0, locals := 0 } : Room) #[(.ref a), (.long q)] h n0 (fun v h' => v = some (.long ((1000000000 : Int64) - (q - t))) ∧ Keep h h' [a] ∧ LG Z h' a (0 : Int32) (0 : Int32) t dr) := by
  refine Con.mk (Ls := #[.val (.ref a), .val (.long q), .second, .unset, .unset]) (plainFor_of_name pn_0) (fun m => by first | (simp [entryFrame, mkF, argsToLocals, Value.category]; done) | rfl) (fun w C => ?_)
  replace C : Cx w l Z "com/example/tributary/tributary/source/sparql/LettingGo" prog_48_method_7_code 5 (some .long) "untilGivenUp" ({ frames := 0, cells := 0, slots := 0, locals := 0 } : Room) n0 := C
  have S_DRAIN_LIMIT : Sta Z Z.heap "com/example/tributary/tributary/source/sparql/LettingGo" "DRAIN_LIMIT" "J" (.long (1000000000 : Int64)) := H
  obtain ⟨E_a, F_givenUp_a, F_letGo_a, F_letGoAt_a, F_dropped_a⟩ := P
  refine g_getS C (pc' := 3) (wd hw 51 rfl) Via.refl d8_0 (S_DRAIN_LIMIT.ext O.2) rfl ?_
  refine g_lloadN C (pc' := 4) d8_3 rfl rfl ?_
  refine g_aloadN C (pc' := 5) d8_4 rfl rfl rfl ?_
  refine g_getF C (pc' := 8) (wd hw 39 rfl) Via.refl d8_5 rfl F_letGoAt_a rfl ?_
  refine g_lsub C (pc' := 9) d8_8 rfl rfl ?_
  refine g_lsub C (pc' := 10) d8_9 rfl rfl ?_
  refine g_lstoreN C (pc' := 11) (Ls' := #[.val (.ref a), .val (.long q), .second, .val (.long ((1000000000 : Int64) - (q - t))), .second]) d8_10 rfl rfl rfl ?_
  refine g_aloadN C (pc' := 12) d8_11 rfl rfl rfl ?_
  refine g_lloadN C (pc' := 13) d8_12 rfl rfl ?_
  refine g_lconst C (pc' := 14) (v := (0 : Int64)) d8_13 (by decide) rfl ?_
  refine g_lcmp C (pc' := 15) d8_14 rfl rfl ?_
  refine g_ifY C (pc' := 22) d8_15 rfl (says_t (cd := .gt) ((lw_gt _ _).mpr hb)) (by decide) rfl ?_
  refine g_iconst C (pc' := 23) (v := (0 : Int32)) d8_22 (by decide) rfl ?_
  refine g_putFN C (pc' := 26) (v' := (.int (0 : Int32))) (ty := .boolean) (wd hw 22 rfl) Via.refl d8_23 rfl F_givenUp_a E_a (Or.inl (wd hw 23 rfl)) (wd hw 1 rfl) (by decide) rfl rfl ga rfl (fun h82 W83 => ?_)
  have f84 := O.wr W83 ga
  have f85 := E_a.wr W83
  have f86 := F_givenUp_a.same W83
  have f87 := F_letGo_a.other W83 (Or.inr (slot_ne (Or.inl (wd hw 16 rfl)) (Or.inl (wd hw 23 rfl)) (by decide) (t := .boolean) (t' := .boolean) (by decide) (by decide)))
  have f88 := F_letGoAt_a.other W83 (Or.inr (slot_ne (Or.inl (wd hw 40 rfl)) (Or.inl (wd hw 23 rfl)) (by decide) (t := .long) (t' := .boolean) (by decide) (by decide)))
  have f89 := F_dropped_a.other W83 (Or.inr (slot_ne (Or.inl (wd hw 42 rfl)) (Or.inl (wd hw 23 rfl)) (by decide) (t := .long) (t' := .boolean) (by decide) (by decide)))
  have f90 := (Keep.refl h [a]).wr W83 (Or.inl (List.mem_of_getElem? (i := 0) rfl))
  refine g_lloadN C (pc' := 27) d8_26 rfl rfl ?_
  exact g_lreturn C d8_27 rfl (Nat.le_of_ble_eq_true rfl) (Nat.le_of_ble_eq_true rfl) (⟨rfl, f90, ⟨f85, f86, f87, f88, f89⟩⟩)
set_option maxRecDepth 65536 in
set_option maxHeartbeats 40000000 in
theorem until_010 (l : Launch) (Z : State) (a0 : Array Value) (hw : ∀ d ∈ tables_1, d.before a0 Z = true) (n0 : Nat) (h : Heap) (O : Old Z n0 h)  (H : En Z ) (a : Addr) (ga : n0 ≤ a) (t dr : Int64) (q : Int64) (hb : ¬ (0 : Int64) < 1000000000 - (q - t)) (P : LG Z h a (0 : Int32) (1 : Int32) t dr) : Con l Z (⟨"com/example/tributary/tributary/source/sparql/LettingGo", "untilGivenUp", "(J)J"⟩ : MethodName) prog_48_method_7_code 5 (some .long) ({ frames := 0, cells := 0, slots := 0, locals := 0 } : Room) #[(.ref a), (.long q)] h n0 (fun v h' => v = some (.long ((1000000000 : Int64) - (q - t))) ∧ Keep h h' [a] ∧ LG Z h' a (1 : Int32) (1 : Int32) t dr) := by
  refine Con.mk (Ls := #[.val (.ref a), .val (.long q), .second, .unset, .unset]) (plainFor_of_name pn_0) (fun m => by first | (simp [entryFrame, mkF, argsToLocals, Value.category]; done) | rfl) (fun w C => ?_)
  replace C : Cx w l Z "com/example/tributary/tributary/source/sparql/LettingGo" prog_48_method_7_code 5 (some .long) "untilGivenUp" ({ frames := 0, cells := 0, slots := 0, locals := 0 } : Room) n0 := C
  have S_DRAIN_LIMIT : Sta Z Z.heap "com/example/tributary/tributary/source/sparql/LettingGo" "DRAIN_LIMIT" "J" (.long (1000000000 : Int64)) := H
  obtain ⟨E_a, F_givenUp_a, F_letGo_a, F_letGoAt_a, F_dropped_a⟩ := P
  refine g_getS C (pc' := 3) (wd hw 51 rfl) Via.refl d8_0 (S_DRAIN_LIMIT.ext O.2) rfl ?_
  refine g_lloadN C (pc' := 4) d8_3 rfl rfl ?_
  refine g_aloadN C (pc' := 5) d8_4 rfl rfl rfl ?_
  refine g_getF C (pc' := 8) (wd hw 39 rfl) Via.refl d8_5 rfl F_letGoAt_a rfl ?_
  refine g_lsub C (pc' := 9) d8_8 rfl rfl ?_
  refine g_lsub C (pc' := 10) d8_9 rfl rfl ?_
  refine g_lstoreN C (pc' := 11) (Ls' := #[.val (.ref a), .val (.long q), .second, .val (.long ((1000000000 : Int64) - (q - t))), .second]) d8_10 rfl rfl rfl ?_
  refine g_aloadN C (pc' := 12) d8_11 rfl rfl rfl ?_
  refine g_lloadN C (pc' := 13) d8_12 rfl rfl ?_
  refine g_lconst C (pc' := 14) (v := (0 : Int64)) d8_13 (by decide) rfl ?_
  refine g_lcmp C (pc' := 15) d8_14 rfl rfl ?_
  refine g_ifN C (pc' := 18) d8_15 rfl (says_f (cd := .gt) (fun q => hb ((lw_gt _ _).mp q))) rfl ?_
  refine g_iconst C (pc' := 19) (v := (1 : Int32)) d8_18 (by decide) rfl ?_
  refine g_goto C (pc' := 23) d8_19 (by decide) rfl ?_
  refine g_putFN C (pc' := 26) (v' := (.int (1 : Int32))) (ty := .boolean) (wd hw 22 rfl) Via.refl d8_23 rfl F_givenUp_a E_a (Or.inl (wd hw 23 rfl)) (wd hw 1 rfl) (by decide) rfl rfl ga rfl (fun h91 W92 => ?_)
  have f93 := O.wr W92 ga
  have f94 := E_a.wr W92
  have f95 := F_givenUp_a.same W92
  have f96 := F_letGo_a.other W92 (Or.inr (slot_ne (Or.inl (wd hw 16 rfl)) (Or.inl (wd hw 23 rfl)) (by decide) (t := .boolean) (t' := .boolean) (by decide) (by decide)))
  have f97 := F_letGoAt_a.other W92 (Or.inr (slot_ne (Or.inl (wd hw 40 rfl)) (Or.inl (wd hw 23 rfl)) (by decide) (t := .long) (t' := .boolean) (by decide) (by decide)))
  have f98 := F_dropped_a.other W92 (Or.inr (slot_ne (Or.inl (wd hw 42 rfl)) (Or.inl (wd hw 23 rfl)) (by decide) (t := .long) (t' := .boolean) (by decide) (by decide)))
  have f99 := (Keep.refl h [a]).wr W92 (Or.inl (List.mem_of_getElem? (i := 0) rfl))
  refine g_lloadN C (pc' := 27) d8_26 rfl rfl ?_
  exact g_lreturn C d8_27 rfl (Nat.le_of_ble_eq_true rfl) (Nat.le_of_ble_eq_true rfl) (⟨rfl, f99, ⟨f94, f95, f96, f97, f98⟩⟩)
set_option maxRecDepth 65536 in
set_option maxHeartbeats 40000000 in
theorem until_011 (l : Launch) (Z : State) (a0 : Array Value) (hw : ∀ d ∈ tables_1, d.before a0 Z = true) (n0 : Nat) (h : Heap) (O : Old Z n0 h)  (H : En Z ) (a : Addr) (ga : n0 ≤ a) (t dr : Int64) (q : Int64) (hb : (0 : Int64) < 1000000000 - (q - t)) (P : LG Z h a (0 : Int32) (1 : Int32) t dr) : Con l Z (⟨"com/example/tributary/tributary/source/sparql/LettingGo", "untilGivenUp", "(J)J"⟩ : MethodName) prog_48_method_7_code 5 (some .long) ({ frames := 0, cells := 0, slots := 0, locals := 0 } : Room) #[(.ref a), (.long q)] h n0 (fun v h' => v = some (.long ((1000000000 : Int64) - (q - t))) ∧ Keep h h' [a] ∧ LG Z h' a (0 : Int32) (1 : Int32) t dr) := by
  refine Con.mk (Ls := #[.val (.ref a), .val (.long q), .second, .unset, .unset]) (plainFor_of_name pn_0) (fun m => by first | (simp [entryFrame, mkF, argsToLocals, Value.category]; done) | rfl) (fun w C => ?_)
  replace C : Cx w l Z "com/example/tributary/tributary/source/sparql/LettingGo" prog_48_method_7_code 5 (some .long) "untilGivenUp" ({ frames := 0, cells := 0, slots := 0, locals := 0 } : Room) n0 := C
  have S_DRAIN_LIMIT : Sta Z Z.heap "com/example/tributary/tributary/source/sparql/LettingGo" "DRAIN_LIMIT" "J" (.long (1000000000 : Int64)) := H
  obtain ⟨E_a, F_givenUp_a, F_letGo_a, F_letGoAt_a, F_dropped_a⟩ := P
  refine g_getS C (pc' := 3) (wd hw 51 rfl) Via.refl d8_0 (S_DRAIN_LIMIT.ext O.2) rfl ?_
  refine g_lloadN C (pc' := 4) d8_3 rfl rfl ?_
  refine g_aloadN C (pc' := 5) d8_4 rfl rfl rfl ?_
  refine g_getF C (pc' := 8) (wd hw 39 rfl) Via.refl d8_5 rfl F_letGoAt_a rfl ?_
  refine g_lsub C (pc' := 9) d8_8 rfl rfl ?_
  refine g_lsub C (pc' := 10) d8_9 rfl rfl ?_
  refine g_lstoreN C (pc' := 11) (Ls' := #[.val (.ref a), .val (.long q), .second, .val (.long ((1000000000 : Int64) - (q - t))), .second]) d8_10 rfl rfl rfl ?_
  refine g_aloadN C (pc' := 12) d8_11 rfl rfl rfl ?_
  refine g_lloadN C (pc' := 13) d8_12 rfl rfl ?_
  refine g_lconst C (pc' := 14) (v := (0 : Int64)) d8_13 (by decide) rfl ?_
  refine g_lcmp C (pc' := 15) d8_14 rfl rfl ?_
  refine g_ifY C (pc' := 22) d8_15 rfl (says_t (cd := .gt) ((lw_gt _ _).mpr hb)) (by decide) rfl ?_
  refine g_iconst C (pc' := 23) (v := (0 : Int32)) d8_22 (by decide) rfl ?_
  refine g_putFN C (pc' := 26) (v' := (.int (0 : Int32))) (ty := .boolean) (wd hw 22 rfl) Via.refl d8_23 rfl F_givenUp_a E_a (Or.inl (wd hw 23 rfl)) (wd hw 1 rfl) (by decide) rfl rfl ga rfl (fun h100 W101 => ?_)
  have f102 := O.wr W101 ga
  have f103 := E_a.wr W101
  have f104 := F_givenUp_a.same W101
  have f105 := F_letGo_a.other W101 (Or.inr (slot_ne (Or.inl (wd hw 16 rfl)) (Or.inl (wd hw 23 rfl)) (by decide) (t := .boolean) (t' := .boolean) (by decide) (by decide)))
  have f106 := F_letGoAt_a.other W101 (Or.inr (slot_ne (Or.inl (wd hw 40 rfl)) (Or.inl (wd hw 23 rfl)) (by decide) (t := .long) (t' := .boolean) (by decide) (by decide)))
  have f107 := F_dropped_a.other W101 (Or.inr (slot_ne (Or.inl (wd hw 42 rfl)) (Or.inl (wd hw 23 rfl)) (by decide) (t := .long) (t' := .boolean) (by decide) (by decide)))
  have f108 := (Keep.refl h [a]).wr W101 (Or.inl (List.mem_of_getElem? (i := 0) rfl))
  refine g_lloadN C (pc' := 27) d8_26 rfl rfl ?_
  exact g_lreturn C d8_27 rfl (Nat.le_of_ble_eq_true rfl) (Nat.le_of_ble_eq_true rfl) (⟨rfl, f108, ⟨f103, f104, f105, f106, f107⟩⟩)
set_option maxRecDepth 65536 in
set_option maxHeartbeats 40000000 in
theorem until_100 (l : Launch) (Z : State) (a0 : Array Value) (hw : ∀ d ∈ tables_1, d.before a0 Z = true) (n0 : Nat) (h : Heap) (O : Old Z n0 h)  (H : En Z ) (a : Addr) (ga : n0 ≤ a) (t dr : Int64) (q : Int64) (hb : ¬ (0 : Int64) < 1000000000 - (q - t)) (P : LG Z h a (1 : Int32) (0 : Int32) t dr) : Con l Z (⟨"com/example/tributary/tributary/source/sparql/LettingGo", "untilGivenUp", "(J)J"⟩ : MethodName) prog_48_method_7_code 5 (some .long) ({ frames := 0, cells := 0, slots := 0, locals := 0 } : Room) #[(.ref a), (.long q)] h n0 (fun v h' => v = some (.long ((1000000000 : Int64) - (q - t))) ∧ Keep h h' [a] ∧ LG Z h' a (1 : Int32) (0 : Int32) t dr) := by
  refine Con.mk (Ls := #[.val (.ref a), .val (.long q), .second, .unset, .unset]) (plainFor_of_name pn_0) (fun m => by first | (simp [entryFrame, mkF, argsToLocals, Value.category]; done) | rfl) (fun w C => ?_)
  replace C : Cx w l Z "com/example/tributary/tributary/source/sparql/LettingGo" prog_48_method_7_code 5 (some .long) "untilGivenUp" ({ frames := 0, cells := 0, slots := 0, locals := 0 } : Room) n0 := C
  have S_DRAIN_LIMIT : Sta Z Z.heap "com/example/tributary/tributary/source/sparql/LettingGo" "DRAIN_LIMIT" "J" (.long (1000000000 : Int64)) := H
  obtain ⟨E_a, F_givenUp_a, F_letGo_a, F_letGoAt_a, F_dropped_a⟩ := P
  refine g_getS C (pc' := 3) (wd hw 51 rfl) Via.refl d8_0 (S_DRAIN_LIMIT.ext O.2) rfl ?_
  refine g_lloadN C (pc' := 4) d8_3 rfl rfl ?_
  refine g_aloadN C (pc' := 5) d8_4 rfl rfl rfl ?_
  refine g_getF C (pc' := 8) (wd hw 39 rfl) Via.refl d8_5 rfl F_letGoAt_a rfl ?_
  refine g_lsub C (pc' := 9) d8_8 rfl rfl ?_
  refine g_lsub C (pc' := 10) d8_9 rfl rfl ?_
  refine g_lstoreN C (pc' := 11) (Ls' := #[.val (.ref a), .val (.long q), .second, .val (.long ((1000000000 : Int64) - (q - t))), .second]) d8_10 rfl rfl rfl ?_
  refine g_aloadN C (pc' := 12) d8_11 rfl rfl rfl ?_
  refine g_lloadN C (pc' := 13) d8_12 rfl rfl ?_
  refine g_lconst C (pc' := 14) (v := (0 : Int64)) d8_13 (by decide) rfl ?_
  refine g_lcmp C (pc' := 15) d8_14 rfl rfl ?_
  refine g_ifN C (pc' := 18) d8_15 rfl (says_f (cd := .gt) (fun q => hb ((lw_gt _ _).mp q))) rfl ?_
  refine g_iconst C (pc' := 19) (v := (1 : Int32)) d8_18 (by decide) rfl ?_
  refine g_goto C (pc' := 23) d8_19 (by decide) rfl ?_
  refine g_putFN C (pc' := 26) (v' := (.int (1 : Int32))) (ty := .boolean) (wd hw 22 rfl) Via.refl d8_23 rfl F_givenUp_a E_a (Or.inl (wd hw 23 rfl)) (wd hw 1 rfl) (by decide) rfl rfl ga rfl (fun h109 W110 => ?_)
  have f111 := O.wr W110 ga
  have f112 := E_a.wr W110
  have f113 := F_givenUp_a.same W110
  have f114 := F_letGo_a.other W110 (Or.inr (slot_ne (Or.inl (wd hw 16 rfl)) (Or.inl (wd hw 23 rfl)) (by decide) (t := .boolean) (t' := .boolean) (by decide) (by decide)))
  have f115 := F_letGoAt_a.other W110 (Or.inr (slot_ne (Or.inl (wd hw 40 rfl)) (Or.inl (wd hw 23 rfl)) (by decide) (t := .long) (t' := .boolean) (by decide) (by decide)))
  have f116 := F_dropped_a.other W110 (Or.inr (slot_ne (Or.inl (wd hw 42 rfl)) (Or.inl (wd hw 23 rfl)) (by decide) (t := .long) (t' := .boolean) (by decide) (by decide)))
  have f117 := (Keep.refl h [a]).wr W110 (Or.inl (List.mem_of_getElem? (i := 0) rfl))
  refine g_lloadN C (pc' := 27) d8_26 rfl rfl ?_
  exact g_lreturn C d8_27 rfl (Nat.le_of_ble_eq_true rfl) (Nat.le_of_ble_eq_true rfl) (⟨rfl, f117, ⟨f112, f113, f114, f115, f116⟩⟩)
set_option maxRecDepth 65536 in
set_option maxHeartbeats 40000000 in
theorem until_101 (l : Launch) (Z : State) (a0 : Array Value) (hw : ∀ d ∈ tables_1, d.before a0 Z = true) (n0 : Nat) (h : Heap) (O : Old Z n0 h)  (H : En Z ) (a : Addr) (ga : n0 ≤ a) (t dr : Int64) (q : Int64) (hb : (0 : Int64) < 1000000000 - (q - t)) (P : LG Z h a (1 : Int32) (0 : Int32) t dr) : Con l Z (⟨"com/example/tributary/tributary/source/sparql/LettingGo", "untilGivenUp", "(J)J"⟩ : MethodName) prog_48_method_7_code 5 (some .long) ({ frames := 0, cells := 0, slots := 0, locals := 0 } : Room) #[(.ref a), (.long q)] h n0 (fun v h' => v = some (.long ((1000000000 : Int64) - (q - t))) ∧ Keep h h' [a] ∧ LG Z h' a (0 : Int32) (0 : Int32) t dr) := by
  refine Con.mk (Ls := #[.val (.ref a), .val (.long q), .second, .unset, .unset]) (plainFor_of_name pn_0) (fun m => by first | (simp [entryFrame, mkF, argsToLocals, Value.category]; done) | rfl) (fun w C => ?_)
  replace C : Cx w l Z "com/example/tributary/tributary/source/sparql/LettingGo" prog_48_method_7_code 5 (some .long) "untilGivenUp" ({ frames := 0, cells := 0, slots := 0, locals := 0 } : Room) n0 := C
  have S_DRAIN_LIMIT : Sta Z Z.heap "com/example/tributary/tributary/source/sparql/LettingGo" "DRAIN_LIMIT" "J" (.long (1000000000 : Int64)) := H
  obtain ⟨E_a, F_givenUp_a, F_letGo_a, F_letGoAt_a, F_dropped_a⟩ := P
  refine g_getS C (pc' := 3) (wd hw 51 rfl) Via.refl d8_0 (S_DRAIN_LIMIT.ext O.2) rfl ?_
  refine g_lloadN C (pc' := 4) d8_3 rfl rfl ?_
  refine g_aloadN C (pc' := 5) d8_4 rfl rfl rfl ?_
  refine g_getF C (pc' := 8) (wd hw 39 rfl) Via.refl d8_5 rfl F_letGoAt_a rfl ?_
  refine g_lsub C (pc' := 9) d8_8 rfl rfl ?_
  refine g_lsub C (pc' := 10) d8_9 rfl rfl ?_
  refine g_lstoreN C (pc' := 11) (Ls' := #[.val (.ref a), .val (.long q), .second, .val (.long ((1000000000 : Int64) - (q - t))), .second]) d8_10 rfl rfl rfl ?_
  refine g_aloadN C (pc' := 12) d8_11 rfl rfl rfl ?_
  refine g_lloadN C (pc' := 13) d8_12 rfl rfl ?_
  refine g_lconst C (pc' := 14) (v := (0 : Int64)) d8_13 (by decide) rfl ?_
  refine g_lcmp C (pc' := 15) d8_14 rfl rfl ?_
  refine g_ifY C (pc' := 22) d8_15 rfl (says_t (cd := .gt) ((lw_gt _ _).mpr hb)) (by decide) rfl ?_
  refine g_iconst C (pc' := 23) (v := (0 : Int32)) d8_22 (by decide) rfl ?_
  refine g_putFN C (pc' := 26) (v' := (.int (0 : Int32))) (ty := .boolean) (wd hw 22 rfl) Via.refl d8_23 rfl F_givenUp_a E_a (Or.inl (wd hw 23 rfl)) (wd hw 1 rfl) (by decide) rfl rfl ga rfl (fun h118 W119 => ?_)
  have f120 := O.wr W119 ga
  have f121 := E_a.wr W119
  have f122 := F_givenUp_a.same W119
  have f123 := F_letGo_a.other W119 (Or.inr (slot_ne (Or.inl (wd hw 16 rfl)) (Or.inl (wd hw 23 rfl)) (by decide) (t := .boolean) (t' := .boolean) (by decide) (by decide)))
  have f124 := F_letGoAt_a.other W119 (Or.inr (slot_ne (Or.inl (wd hw 40 rfl)) (Or.inl (wd hw 23 rfl)) (by decide) (t := .long) (t' := .boolean) (by decide) (by decide)))
  have f125 := F_dropped_a.other W119 (Or.inr (slot_ne (Or.inl (wd hw 42 rfl)) (Or.inl (wd hw 23 rfl)) (by decide) (t := .long) (t' := .boolean) (by decide) (by decide)))
  have f126 := (Keep.refl h [a]).wr W119 (Or.inl (List.mem_of_getElem? (i := 0) rfl))
  refine g_lloadN C (pc' := 27) d8_26 rfl rfl ?_
  exact g_lreturn C d8_27 rfl (Nat.le_of_ble_eq_true rfl) (Nat.le_of_ble_eq_true rfl) (⟨rfl, f126, ⟨f121, f122, f123, f124, f125⟩⟩)
set_option maxRecDepth 65536 in
set_option maxHeartbeats 40000000 in
theorem until_110 (l : Launch) (Z : State) (a0 : Array Value) (hw : ∀ d ∈ tables_1, d.before a0 Z = true) (n0 : Nat) (h : Heap) (O : Old Z n0 h)  (H : En Z ) (a : Addr) (ga : n0 ≤ a) (t dr : Int64) (q : Int64) (hb : ¬ (0 : Int64) < 1000000000 - (q - t)) (P : LG Z h a (1 : Int32) (1 : Int32) t dr) : Con l Z (⟨"com/example/tributary/tributary/source/sparql/LettingGo", "untilGivenUp", "(J)J"⟩ : MethodName) prog_48_method_7_code 5 (some .long) ({ frames := 0, cells := 0, slots := 0, locals := 0 } : Room) #[(.ref a), (.long q)] h n0 (fun v h' => v = some (.long ((1000000000 : Int64) - (q - t))) ∧ Keep h h' [a] ∧ LG Z h' a (1 : Int32) (1 : Int32) t dr) := by
  refine Con.mk (Ls := #[.val (.ref a), .val (.long q), .second, .unset, .unset]) (plainFor_of_name pn_0) (fun m => by first | (simp [entryFrame, mkF, argsToLocals, Value.category]; done) | rfl) (fun w C => ?_)
  replace C : Cx w l Z "com/example/tributary/tributary/source/sparql/LettingGo" prog_48_method_7_code 5 (some .long) "untilGivenUp" ({ frames := 0, cells := 0, slots := 0, locals := 0 } : Room) n0 := C
  have S_DRAIN_LIMIT : Sta Z Z.heap "com/example/tributary/tributary/source/sparql/LettingGo" "DRAIN_LIMIT" "J" (.long (1000000000 : Int64)) := H
  obtain ⟨E_a, F_givenUp_a, F_letGo_a, F_letGoAt_a, F_dropped_a⟩ := P
  refine g_getS C (pc' := 3) (wd hw 51 rfl) Via.refl d8_0 (S_DRAIN_LIMIT.ext O.2) rfl ?_
  refine g_lloadN C (pc' := 4) d8_3 rfl rfl ?_
  refine g_aloadN C (pc' := 5) d8_4 rfl rfl rfl ?_
  refine g_getF C (pc' := 8) (wd hw 39 rfl) Via.refl d8_5 rfl F_letGoAt_a rfl ?_
  refine g_lsub C (pc' := 9) d8_8 rfl rfl ?_
  refine g_lsub C (pc' := 10) d8_9 rfl rfl ?_
  refine g_lstoreN C (pc' := 11) (Ls' := #[.val (.ref a), .val (.long q), .second, .val (.long ((1000000000 : Int64) - (q - t))), .second]) d8_10 rfl rfl rfl ?_
  refine g_aloadN C (pc' := 12) d8_11 rfl rfl rfl ?_
  refine g_lloadN C (pc' := 13) d8_12 rfl rfl ?_
  refine g_lconst C (pc' := 14) (v := (0 : Int64)) d8_13 (by decide) rfl ?_
  refine g_lcmp C (pc' := 15) d8_14 rfl rfl ?_
  refine g_ifN C (pc' := 18) d8_15 rfl (says_f (cd := .gt) (fun q => hb ((lw_gt _ _).mp q))) rfl ?_
  refine g_iconst C (pc' := 19) (v := (1 : Int32)) d8_18 (by decide) rfl ?_
  refine g_goto C (pc' := 23) d8_19 (by decide) rfl ?_
  refine g_putFN C (pc' := 26) (v' := (.int (1 : Int32))) (ty := .boolean) (wd hw 22 rfl) Via.refl d8_23 rfl F_givenUp_a E_a (Or.inl (wd hw 23 rfl)) (wd hw 1 rfl) (by decide) rfl rfl ga rfl (fun h127 W128 => ?_)
  have f129 := O.wr W128 ga
  have f130 := E_a.wr W128
  have f131 := F_givenUp_a.same W128
  have f132 := F_letGo_a.other W128 (Or.inr (slot_ne (Or.inl (wd hw 16 rfl)) (Or.inl (wd hw 23 rfl)) (by decide) (t := .boolean) (t' := .boolean) (by decide) (by decide)))
  have f133 := F_letGoAt_a.other W128 (Or.inr (slot_ne (Or.inl (wd hw 40 rfl)) (Or.inl (wd hw 23 rfl)) (by decide) (t := .long) (t' := .boolean) (by decide) (by decide)))
  have f134 := F_dropped_a.other W128 (Or.inr (slot_ne (Or.inl (wd hw 42 rfl)) (Or.inl (wd hw 23 rfl)) (by decide) (t := .long) (t' := .boolean) (by decide) (by decide)))
  have f135 := (Keep.refl h [a]).wr W128 (Or.inl (List.mem_of_getElem? (i := 0) rfl))
  refine g_lloadN C (pc' := 27) d8_26 rfl rfl ?_
  exact g_lreturn C d8_27 rfl (Nat.le_of_ble_eq_true rfl) (Nat.le_of_ble_eq_true rfl) (⟨rfl, f135, ⟨f130, f131, f132, f133, f134⟩⟩)
set_option maxRecDepth 65536 in
set_option maxHeartbeats 40000000 in
theorem until_111 (l : Launch) (Z : State) (a0 : Array Value) (hw : ∀ d ∈ tables_1, d.before a0 Z = true) (n0 : Nat) (h : Heap) (O : Old Z n0 h)  (H : En Z ) (a : Addr) (ga : n0 ≤ a) (t dr : Int64) (q : Int64) (hb : (0 : Int64) < 1000000000 - (q - t)) (P : LG Z h a (1 : Int32) (1 : Int32) t dr) : Con l Z (⟨"com/example/tributary/tributary/source/sparql/LettingGo", "untilGivenUp", "(J)J"⟩ : MethodName) prog_48_method_7_code 5 (some .long) ({ frames := 0, cells := 0, slots := 0, locals := 0 } : Room) #[(.ref a), (.long q)] h n0 (fun v h' => v = some (.long ((1000000000 : Int64) - (q - t))) ∧ Keep h h' [a] ∧ LG Z h' a (0 : Int32) (1 : Int32) t dr) := by
  refine Con.mk (Ls := #[.val (.ref a), .val (.long q), .second, .unset, .unset]) (plainFor_of_name pn_0) (fun m => by first | (simp [entryFrame, mkF, argsToLocals, Value.category]; done) | rfl) (fun w C => ?_)
  replace C : Cx w l Z "com/example/tributary/tributary/source/sparql/LettingGo" prog_48_method_7_code 5 (some .long) "untilGivenUp" ({ frames := 0, cells := 0, slots := 0, locals := 0 } : Room) n0 := C
  have S_DRAIN_LIMIT : Sta Z Z.heap "com/example/tributary/tributary/source/sparql/LettingGo" "DRAIN_LIMIT" "J" (.long (1000000000 : Int64)) := H
  obtain ⟨E_a, F_givenUp_a, F_letGo_a, F_letGoAt_a, F_dropped_a⟩ := P
  refine g_getS C (pc' := 3) (wd hw 51 rfl) Via.refl d8_0 (S_DRAIN_LIMIT.ext O.2) rfl ?_
  refine g_lloadN C (pc' := 4) d8_3 rfl rfl ?_
  refine g_aloadN C (pc' := 5) d8_4 rfl rfl rfl ?_
  refine g_getF C (pc' := 8) (wd hw 39 rfl) Via.refl d8_5 rfl F_letGoAt_a rfl ?_
  refine g_lsub C (pc' := 9) d8_8 rfl rfl ?_
  refine g_lsub C (pc' := 10) d8_9 rfl rfl ?_
  refine g_lstoreN C (pc' := 11) (Ls' := #[.val (.ref a), .val (.long q), .second, .val (.long ((1000000000 : Int64) - (q - t))), .second]) d8_10 rfl rfl rfl ?_
  refine g_aloadN C (pc' := 12) d8_11 rfl rfl rfl ?_
  refine g_lloadN C (pc' := 13) d8_12 rfl rfl ?_
  refine g_lconst C (pc' := 14) (v := (0 : Int64)) d8_13 (by decide) rfl ?_
  refine g_lcmp C (pc' := 15) d8_14 rfl rfl ?_
  refine g_ifY C (pc' := 22) d8_15 rfl (says_t (cd := .gt) ((lw_gt _ _).mpr hb)) (by decide) rfl ?_
  refine g_iconst C (pc' := 23) (v := (0 : Int32)) d8_22 (by decide) rfl ?_
  refine g_putFN C (pc' := 26) (v' := (.int (0 : Int32))) (ty := .boolean) (wd hw 22 rfl) Via.refl d8_23 rfl F_givenUp_a E_a (Or.inl (wd hw 23 rfl)) (wd hw 1 rfl) (by decide) rfl rfl ga rfl (fun h136 W137 => ?_)
  have f138 := O.wr W137 ga
  have f139 := E_a.wr W137
  have f140 := F_givenUp_a.same W137
  have f141 := F_letGo_a.other W137 (Or.inr (slot_ne (Or.inl (wd hw 16 rfl)) (Or.inl (wd hw 23 rfl)) (by decide) (t := .boolean) (t' := .boolean) (by decide) (by decide)))
  have f142 := F_letGoAt_a.other W137 (Or.inr (slot_ne (Or.inl (wd hw 40 rfl)) (Or.inl (wd hw 23 rfl)) (by decide) (t := .long) (t' := .boolean) (by decide) (by decide)))
  have f143 := F_dropped_a.other W137 (Or.inr (slot_ne (Or.inl (wd hw 42 rfl)) (Or.inl (wd hw 23 rfl)) (by decide) (t := .long) (t' := .boolean) (by decide) (by decide)))
  have f144 := (Keep.refl h [a]).wr W137 (Or.inl (List.mem_of_getElem? (i := 0) rfl))
  refine g_lloadN C (pc' := 27) d8_26 rfl rfl ?_
  exact g_lreturn C d8_27 rfl (Nat.le_of_ble_eq_true rfl) (Nat.le_of_ble_eq_true rfl) (⟨rfl, f144, ⟨f139, f140, f141, f142, f143⟩⟩)
theorem own_and3 (x : Int32) : (x &&& (3 : Int32)) = (0 : Int32) ∨ (x &&& (3 : Int32)) = (1 : Int32) ∨ (x &&& (3 : Int32)) = (2 : Int32) ∨ (x &&& (3 : Int32)) = (3 : Int32) := by
  have h2 := c_mask x 3 2 (by decide) (by decide)
  simp only [← Int32.toInt_inj, h2]
  have h3 : x.toInt % 4 = 0 ∨ x.toInt % 4 = 1 ∨ x.toInt % 4 = 2 ∨ x.toInt % 4 = 3 := by omega
  rcases h3 with h | h | h | h <;> simp [h]
theorem own_back (x : Int64) : ¬ (0 : Int64) < (1000000000 : Int64) - ((x + (2000000000 : Int64)) - x) := by
  have e : (x + (2000000000 : Int64)) - x = 2000000000 := by rw [Int64.add_comm, Int64.add_sub_cancel]
  rw [e]; decide
theorem pd_0 : parseMethodDescriptor "()V" = some ⟨[], none⟩ := by decide +kernel
theorem pd_1 : parseMethodDescriptor "(J)Z" = some ⟨[.long], some .boolean⟩ := by decide +kernel
theorem pd_2 : parseMethodDescriptor "()Z" = some ⟨[], some .boolean⟩ := by decide +kernel
theorem pd_3 : parseMethodDescriptor "(J)J" = some ⟨[.long], some .long⟩ := by decide +kernel
theorem pn_1 : plainName "com/example/tributary/tributary/source/sparql/LettingGoDropsPinLaw" = true := by first | (simp [plainName, overriddenIn]; done) | decide +kernel
set_option maxRecDepth 65536 in
set_option maxHeartbeats 40000000 in
theorem rm0 (l : Launch) (Z : State) (a0 : Array Value) (hw : ∀ d ∈ tables_1, d.before a0 Z = true) (n0 : Nat) (h : Heap) (O : Old Z n0 h)  (H : En Z ) (p0 : Int32) (p1 p2 p3 p4 : Int64) : Con l Z x code maxLocals ret room_1 #[(.int p0), (.long p1), (.long p2), (.long p3), (.long p4)] h n0 (fun v _ => v = some (.int (1 : Int32))) := by
  refine Con.mk (Ls := #[.val (.int p0), .val (.long p1), .second, .val (.long p2), .second, .val (.long p3), .second, .val (.long p4), .second, .unset, .unset, .unset, .unset, .unset, .unset, .unset, .unset, .unset, .unset, .unset, .unset, .unset, .unset, .unset, .unset, .unset, .unset]) (plainFor_of_name pn_1) (fun m => by first | (simp [entryFrame, mkF, argsToLocals, Value.category, maxLocals]; done) | rfl) (fun w C => ?_)
  replace C : Cx w l Z "com/example/tributary/tributary/source/sparql/LettingGoDropsPinLaw" code 27 (some .boolean) "law" room_1 n0 := C
  have S_DRAIN_LIMIT : Sta Z Z.heap "com/example/tributary/tributary/source/sparql/LettingGo" "DRAIN_LIMIT" "J" (.long (1000000000 : Int64)) := H
  refine g_new C (pc' := 3) (k' := 1) (n' := 4) (wd hw 0 rfl) (wd hw 1 rfl) (wd hw 2 rfl) at_0 (by decide) (by decide) rfl rfl rfl (fun h145 b146 ex147 E148 A149 D150 => ?_)
  have ge_b146 : n0 ≤ b146 := by rw [ex147]; exact O.1 ▸ O.2.1
  have f151 := O.ext E148
  have F_letGo_b146 : Fld Z h145 b146 "com/example/tributary/tributary/source/sparql/LettingGo" "letGo" "Z" (.int (0 : Int32)) := D150 (Or.inl (wd hw 16 rfl)) (ty := .boolean) (by decide)
  have F_givenUp_b146 : Fld Z h145 b146 "com/example/tributary/tributary/source/sparql/LettingGo" "givenUp" "Z" (.int (0 : Int32)) := D150 (Or.inl (wd hw 23 rfl)) (ty := .boolean) (by decide)
  have F_letGoAt_b146 : Fld Z h145 b146 "com/example/tributary/tributary/source/sparql/LettingGo" "letGoAt" "J" (.long (0 : Int64)) := D150 (Or.inl (wd hw 40 rfl)) (ty := .long) (by decide)
  have F_dropped_b146 : Fld Z h145 b146 "com/example/tributary/tributary/source/sparql/LettingGo" "dropped" "J" (.long (0 : Int64)) := D150 (Or.inl (wd hw 42 rfl)) (ty := .long) (by decide)
  refine g_dup C (pc' := 4) at_3 rfl rfl rfl ?_
  have P152 : LG Z h145 b146 (0 : Int32) (0 : Int32) (0 : Int64) (0 : Int64) := ⟨A149, F_givenUp_b146, F_letGo_b146, F_letGoAt_b146, F_dropped_b146⟩
  refine g_special C (pc' := 7) (k' := 1) (n' := 4) (argsL := []) (rest := [(.ref b146)]) (wd hw 3 rfl) (wd hw 4 rfl) (wd hw 2 rfl) (wd hw 5 rfl) (by decide) rfl at_4 pd_0 rfl rfl rfl (init l Z a0 hw n0 h145 f151 H b146 ge_b146 P152) (Nat.le_of_ble_eq_true rfl) (Nat.le_of_ble_eq_true rfl) (Nat.le_of_ble_eq_true rfl) (Nat.le_of_ble_eq_true rfl) rfl rfl rfl (fun v154 h153 q155 => ?_)
  obtain ⟨rfl, eh153⟩ := q155
  subst h153
  show G w _ h145 1 4 7 #[.val (.int p0), .val (.long p1), .second, .val (.long p2), .second, .val (.long p3), .second, .val (.long p4), .second, .unset, .unset, .unset, .unset, .unset, .unset, .unset, .unset, .unset, .unset, .unset, .unset, .unset, .unset, .unset, .unset, .unset, .unset] [(.ref b146)]
  refine g_astore C (pc' := 9) (Ls' := #[.val (.int p0), .val (.long p1), .second, .val (.long p2), .second, .val (.long p3), .second, .val (.long p4), .second, .val (.ref b146), .unset, .unset, .unset, .unset, .unset, .unset, .unset, .unset, .unset, .unset, .unset, .unset, .unset, .unset, .unset, .unset, .unset]) at_7 rfl rfl rfl rfl ?_
  refine g_iloadN C (pc' := 10) at_9 rfl rfl ?_
  refine g_iconst C (pc' := 11) (v := (3 : Int32)) at_10 (by decide) rfl ?_
  refine g_iand C (pc' := 12) at_11 rfl rfl ?_
  rcases own_and3 p0 with e4 | e4 | e4 | e4
  · rw [e4]
    refine g_istore C (pc' := 14) (Ls' := #[.val (.int p0), .val (.long p1), .second, .val (.long p2), .second, .val (.long p3), .second, .val (.long p4), .second, .val (.ref b146), .val (.int (0 : Int32)), .unset, .unset, .unset, .unset, .unset, .unset, .unset, .unset, .unset, .unset, .unset, .unset, .unset, .unset, .unset, .unset]) at_12 rfl rfl rfl ?_
    refine g_iload C (pc' := 16) at_14 rfl rfl ?_
    refine g_iconst C (pc' := 17) (v := (1 : Int32)) at_16 (by decide) rfl ?_
    refine g_icY C (pc' := 26) at_17 rfl (by decide) (by decide) rfl ?_
    refine g_iload C (pc' := 28) at_26 rfl rfl ?_
    refine g_iconst C (pc' := 29) (v := (2 : Int32)) at_28 (by decide) rfl ?_
    refine g_icY C (pc' := 39) at_29 rfl (by decide) (by decide) rfl ?_
    refine g_iload C (pc' := 41) at_39 rfl rfl ?_
    refine g_iconst C (pc' := 42) (v := (3 : Int32)) at_41 (by decide) rfl ?_
    refine g_icY C (pc' := 56) at_42 rfl (by decide) (by decide) rfl ?_
    refine g_lloadN C (pc' := 57) at_56 rfl rfl ?_
    refine g_ldc2Long C (pc' := 60) (wd hw 9 rfl) at_57 rfl ?_
    refine g_land C (pc' := 61) at_60 rfl rfl ?_
    refine g_lstore C (pc' := 63) (Ls' := #[.val (.int p0), .val (.long p1), .second, .val (.long p2), .second, .val (.long p3), .second, .val (.long p4), .second, .val (.ref b146), .val (.int (0 : Int32)), .val (.long (p2 &&& (2147483647 : Int64))), .second, .unset, .unset, .unset, .unset, .unset, .unset, .unset, .unset, .unset, .unset, .unset, .unset, .unset, .unset]) at_61 rfl rfl rfl ?_
    refine g_lload C (pc' := 65) at_63 rfl rfl ?_
    refine g_ldc2Long C (pc' := 68) (wd hw 9 rfl) at_65 rfl ?_
    refine g_land C (pc' := 69) at_68 rfl rfl ?_
    refine g_lstore C (pc' := 71) (Ls' := #[.val (.int p0), .val (.long p1), .second, .val (.long p2), .second, .val (.long p3), .second, .val (.long p4), .second, .val (.ref b146), .val (.int (0 : Int32)), .val (.long (p2 &&& (2147483647 : Int64))), .second, .val (.long (p3 &&& (2147483647 : Int64))), .second, .unset, .unset, .unset, .unset, .unset, .unset, .unset, .unset, .unset, .unset, .unset, .unset]) at_69 rfl rfl rfl ?_
    refine g_lload C (pc' := 73) at_71 rfl rfl ?_
    refine g_ldc2Long C (pc' := 76) (wd hw 9 rfl) at_73 rfl ?_
    refine g_land C (pc' := 77) at_76 rfl rfl ?_
    refine g_lstore C (pc' := 79) (Ls' := #[.val (.int p0), .val (.long p1), .second, .val (.long p2), .second, .val (.long p3), .second, .val (.long p4), .second, .val (.ref b146), .val (.int (0 : Int32)), .val (.long (p2 &&& (2147483647 : Int64))), .second, .val (.long (p3 &&& (2147483647 : Int64))), .second, .val (.long (p4 &&& (2147483647 : Int64))), .second, .unset, .unset, .unset, .unset, .unset, .unset, .unset, .unset, .unset, .unset]) at_77 rfl rfl rfl ?_
    refine g_aload C (pc' := 81) at_79 rfl rfl rfl ?_
    refine g_lload C (pc' := 83) at_81 rfl rfl ?_
    refine g_virtual C (pc' := 86) (k' := 1) (n' := 4) (argsL := [(.long (p2 &&& (2147483647 : Int64)))]) (rest := []) (wd hw 10 rfl) (wd hw 11 rfl) (nfSel (wd hw 13 rfl)) (wd hw 13 rfl) (wd hw 12 rfl) (wd hw 2 rfl) (wd hw 14 rfl) (by decide) at_83 pd_1 rfl rfl rfl A149 (drops_00 l Z a0 hw n0 h145 f151 H b146 ge_b146 (0 : Int64) (0 : Int64) (p2 &&& (2147483647 : Int64)) P152) (Nat.le_of_ble_eq_true rfl) (Nat.le_of_ble_eq_true rfl) (Nat.le_of_ble_eq_true rfl) (Nat.le_of_ble_eq_true rfl) rfl rfl rfl (fun v157 h156 q158 => ?_)
    obtain ⟨rfl, eh156⟩ := q158
    subst h156
    show G w _ h145 1 4 86 #[.val (.int p0), .val (.long p1), .second, .val (.long p2), .second, .val (.long p3), .second, .val (.long p4), .second, .val (.ref b146), .val (.int (0 : Int32)), .val (.long (p2 &&& (2147483647 : Int64))), .second, .val (.long (p3 &&& (2147483647 : Int64))), .second, .val (.long (p4 &&& (2147483647 : Int64))), .second, .unset, .unset, .unset, .unset, .unset, .unset, .unset, .unset, .unset, .unset] [(.int (0 : Int32))]
    refine g_istore C (pc' := 88) (Ls' := #[.val (.int p0), .val (.long p1), .second, .val (.long p2), .second, .val (.long p3), .second, .val (.long p4), .second, .val (.ref b146), .val (.int (0 : Int32)), .val (.long (p2 &&& (2147483647 : Int64))), .second, .val (.long (p3 &&& (2147483647 : Int64))), .second, .val (.long (p4 &&& (2147483647 : Int64))), .second, .val (.int (0 : Int32)), .unset, .unset, .unset, .unset, .unset, .unset, .unset, .unset, .unset]) at_86 rfl rfl rfl ?_
    refine g_aload C (pc' := 90) at_88 rfl rfl rfl ?_
    refine g_virtual C (pc' := 93) (k' := 1) (n' := 4) (argsL := []) (rest := []) (wd hw 17 rfl) (wd hw 18 rfl) (nfSel (wd hw 20 rfl)) (wd hw 20 rfl) (wd hw 19 rfl) (wd hw 2 rfl) (wd hw 21 rfl) (by decide) at_90 pd_2 rfl rfl rfl A149 (givenUp_00 l Z a0 hw n0 h145 f151 H b146 ge_b146 (0 : Int64) (0 : Int64) P152) (Nat.le_of_ble_eq_true rfl) (Nat.le_of_ble_eq_true rfl) (Nat.le_of_ble_eq_true rfl) (Nat.le_of_ble_eq_true rfl) rfl rfl rfl (fun v160 h159 q161 => ?_)
    obtain ⟨rfl, eh159⟩ := q161
    subst h159
    show G w _ h145 1 4 93 #[.val (.int p0), .val (.long p1), .second, .val (.long p2), .second, .val (.long p3), .second, .val (.long p4), .second, .val (.ref b146), .val (.int (0 : Int32)), .val (.long (p2 &&& (2147483647 : Int64))), .second, .val (.long (p3 &&& (2147483647 : Int64))), .second, .val (.long (p4 &&& (2147483647 : Int64))), .second, .val (.int (0 : Int32)), .unset, .unset, .unset, .unset, .unset, .unset, .unset, .unset, .unset] [(.int (0 : Int32))]
    refine g_istore C (pc' := 95) (Ls' := #[.val (.int p0), .val (.long p1), .second, .val (.long p2), .second, .val (.long p3), .second, .val (.long p4), .second, .val (.ref b146), .val (.int (0 : Int32)), .val (.long (p2 &&& (2147483647 : Int64))), .second, .val (.long (p3 &&& (2147483647 : Int64))), .second, .val (.long (p4 &&& (2147483647 : Int64))), .second, .val (.int (0 : Int32)), .val (.int (0 : Int32)), .unset, .unset, .unset, .unset, .unset, .unset, .unset, .unset]) at_93 rfl rfl rfl ?_
    refine g_aload C (pc' := 97) at_95 rfl rfl rfl ?_
    refine g_lload C (pc' := 99) at_97 rfl rfl ?_
    refine g_virtual C (pc' := 102) (k' := 1) (n' := 4) (argsL := [(.long (p3 &&& (2147483647 : Int64)))]) (rest := []) (wd hw 10 rfl) (wd hw 11 rfl) (nfSel (wd hw 13 rfl)) (wd hw 13 rfl) (wd hw 12 rfl) (wd hw 2 rfl) (wd hw 14 rfl) (by decide) at_99 pd_1 rfl rfl rfl A149 (drops_00 l Z a0 hw n0 h145 f151 H b146 ge_b146 (0 : Int64) (0 : Int64) (p3 &&& (2147483647 : Int64)) P152) (Nat.le_of_ble_eq_true rfl) (Nat.le_of_ble_eq_true rfl) (Nat.le_of_ble_eq_true rfl) (Nat.le_of_ble_eq_true rfl) rfl rfl rfl (fun v163 h162 q164 => ?_)
    obtain ⟨rfl, eh162⟩ := q164
    subst h162
    show G w _ h145 1 4 102 #[.val (.int p0), .val (.long p1), .second, .val (.long p2), .second, .val (.long p3), .second, .val (.long p4), .second, .val (.ref b146), .val (.int (0 : Int32)), .val (.long (p2 &&& (2147483647 : Int64))), .second, .val (.long (p3 &&& (2147483647 : Int64))), .second, .val (.long (p4 &&& (2147483647 : Int64))), .second, .val (.int (0 : Int32)), .val (.int (0 : Int32)), .unset, .unset, .unset, .unset, .unset, .unset, .unset, .unset] [(.int (0 : Int32))]
    refine g_istore C (pc' := 104) (Ls' := #[.val (.int p0), .val (.long p1), .second, .val (.long p2), .second, .val (.long p3), .second, .val (.long p4), .second, .val (.ref b146), .val (.int (0 : Int32)), .val (.long (p2 &&& (2147483647 : Int64))), .second, .val (.long (p3 &&& (2147483647 : Int64))), .second, .val (.long (p4 &&& (2147483647 : Int64))), .second, .val (.int (0 : Int32)), .val (.int (0 : Int32)), .val (.int (0 : Int32)), .unset, .unset, .unset, .unset, .unset, .unset, .unset]) at_102 rfl rfl rfl ?_
    refine g_aload C (pc' := 106) at_104 rfl rfl rfl ?_
    refine g_virtual C (pc' := 109) (k' := 1) (n' := 4) (argsL := []) (rest := []) (wd hw 17 rfl) (wd hw 18 rfl) (nfSel (wd hw 20 rfl)) (wd hw 20 rfl) (wd hw 19 rfl) (wd hw 2 rfl) (wd hw 21 rfl) (by decide) at_106 pd_2 rfl rfl rfl A149 (givenUp_00 l Z a0 hw n0 h145 f151 H b146 ge_b146 (0 : Int64) (0 : Int64) P152) (Nat.le_of_ble_eq_true rfl) (Nat.le_of_ble_eq_true rfl) (Nat.le_of_ble_eq_true rfl) (Nat.le_of_ble_eq_true rfl) rfl rfl rfl (fun v166 h165 q167 => ?_)
    obtain ⟨rfl, eh165⟩ := q167
    subst h165
    show G w _ h145 1 4 109 #[.val (.int p0), .val (.long p1), .second, .val (.long p2), .second, .val (.long p3), .second, .val (.long p4), .second, .val (.ref b146), .val (.int (0 : Int32)), .val (.long (p2 &&& (2147483647 : Int64))), .second, .val (.long (p3 &&& (2147483647 : Int64))), .second, .val (.long (p4 &&& (2147483647 : Int64))), .second, .val (.int (0 : Int32)), .val (.int (0 : Int32)), .val (.int (0 : Int32)), .unset, .unset, .unset, .unset, .unset, .unset, .unset] [(.int (0 : Int32))]
    refine g_istore C (pc' := 111) (Ls' := #[.val (.int p0), .val (.long p1), .second, .val (.long p2), .second, .val (.long p3), .second, .val (.long p4), .second, .val (.ref b146), .val (.int (0 : Int32)), .val (.long (p2 &&& (2147483647 : Int64))), .second, .val (.long (p3 &&& (2147483647 : Int64))), .second, .val (.long (p4 &&& (2147483647 : Int64))), .second, .val (.int (0 : Int32)), .val (.int (0 : Int32)), .val (.int (0 : Int32)), .val (.int (0 : Int32)), .unset, .unset, .unset, .unset, .unset, .unset]) at_109 rfl rfl rfl ?_
    refine g_aload C (pc' := 113) at_111 rfl rfl rfl ?_
    refine g_lload C (pc' := 115) at_113 rfl rfl ?_
    refine g_virtual C (pc' := 118) (k' := 1) (n' := 4) (argsL := [(.long (p4 &&& (2147483647 : Int64)))]) (rest := []) (wd hw 10 rfl) (wd hw 11 rfl) (nfSel (wd hw 13 rfl)) (wd hw 13 rfl) (wd hw 12 rfl) (wd hw 2 rfl) (wd hw 14 rfl) (by decide) at_115 pd_1 rfl rfl rfl A149 (drops_00 l Z a0 hw n0 h145 f151 H b146 ge_b146 (0 : Int64) (0 : Int64) (p4 &&& (2147483647 : Int64)) P152) (Nat.le_of_ble_eq_true rfl) (Nat.le_of_ble_eq_true rfl) (Nat.le_of_ble_eq_true rfl) (Nat.le_of_ble_eq_true rfl) rfl rfl rfl (fun v169 h168 q170 => ?_)
    obtain ⟨rfl, eh168⟩ := q170
    subst h168
    show G w _ h145 1 4 118 #[.val (.int p0), .val (.long p1), .second, .val (.long p2), .second, .val (.long p3), .second, .val (.long p4), .second, .val (.ref b146), .val (.int (0 : Int32)), .val (.long (p2 &&& (2147483647 : Int64))), .second, .val (.long (p3 &&& (2147483647 : Int64))), .second, .val (.long (p4 &&& (2147483647 : Int64))), .second, .val (.int (0 : Int32)), .val (.int (0 : Int32)), .val (.int (0 : Int32)), .val (.int (0 : Int32)), .unset, .unset, .unset, .unset, .unset, .unset] [(.int (0 : Int32))]
    refine g_istore C (pc' := 120) (Ls' := #[.val (.int p0), .val (.long p1), .second, .val (.long p2), .second, .val (.long p3), .second, .val (.long p4), .second, .val (.ref b146), .val (.int (0 : Int32)), .val (.long (p2 &&& (2147483647 : Int64))), .second, .val (.long (p3 &&& (2147483647 : Int64))), .second, .val (.long (p4 &&& (2147483647 : Int64))), .second, .val (.int (0 : Int32)), .val (.int (0 : Int32)), .val (.int (0 : Int32)), .val (.int (0 : Int32)), .val (.int (0 : Int32)), .unset, .unset, .unset, .unset, .unset]) at_118 rfl rfl rfl ?_
    refine g_aload C (pc' := 122) at_120 rfl rfl rfl ?_
    refine g_virtual C (pc' := 125) (k' := 1) (n' := 4) (argsL := []) (rest := []) (wd hw 17 rfl) (wd hw 18 rfl) (nfSel (wd hw 20 rfl)) (wd hw 20 rfl) (wd hw 19 rfl) (wd hw 2 rfl) (wd hw 21 rfl) (by decide) at_122 pd_2 rfl rfl rfl A149 (givenUp_00 l Z a0 hw n0 h145 f151 H b146 ge_b146 (0 : Int64) (0 : Int64) P152) (Nat.le_of_ble_eq_true rfl) (Nat.le_of_ble_eq_true rfl) (Nat.le_of_ble_eq_true rfl) (Nat.le_of_ble_eq_true rfl) rfl rfl rfl (fun v172 h171 q173 => ?_)
    obtain ⟨rfl, eh171⟩ := q173
    subst h171
    show G w _ h145 1 4 125 #[.val (.int p0), .val (.long p1), .second, .val (.long p2), .second, .val (.long p3), .second, .val (.long p4), .second, .val (.ref b146), .val (.int (0 : Int32)), .val (.long (p2 &&& (2147483647 : Int64))), .second, .val (.long (p3 &&& (2147483647 : Int64))), .second, .val (.long (p4 &&& (2147483647 : Int64))), .second, .val (.int (0 : Int32)), .val (.int (0 : Int32)), .val (.int (0 : Int32)), .val (.int (0 : Int32)), .val (.int (0 : Int32)), .unset, .unset, .unset, .unset, .unset] [(.int (0 : Int32))]
    refine g_istore C (pc' := 127) (Ls' := #[.val (.int p0), .val (.long p1), .second, .val (.long p2), .second, .val (.long p3), .second, .val (.long p4), .second, .val (.ref b146), .val (.int (0 : Int32)), .val (.long (p2 &&& (2147483647 : Int64))), .second, .val (.long (p3 &&& (2147483647 : Int64))), .second, .val (.long (p4 &&& (2147483647 : Int64))), .second, .val (.int (0 : Int32)), .val (.int (0 : Int32)), .val (.int (0 : Int32)), .val (.int (0 : Int32)), .val (.int (0 : Int32)), .val (.int (0 : Int32)), .unset, .unset, .unset, .unset]) at_125 rfl rfl rfl ?_
    refine g_aload C (pc' := 129) at_127 rfl rfl rfl ?_
    refine g_virtual C (pc' := 132) (k' := 1) (n' := 4) (argsL := []) (rest := []) (wd hw 24 rfl) (wd hw 25 rfl) (nfSel (wd hw 27 rfl)) (wd hw 27 rfl) (wd hw 26 rfl) (wd hw 2 rfl) (wd hw 28 rfl) (by decide) at_129 pd_2 rfl rfl rfl A149 (isLetGo_00 l Z a0 hw n0 h145 f151 H b146 ge_b146 (0 : Int64) (0 : Int64) P152) (Nat.le_of_ble_eq_true rfl) (Nat.le_of_ble_eq_true rfl) (Nat.le_of_ble_eq_true rfl) (Nat.le_of_ble_eq_true rfl) rfl rfl rfl (fun v175 h174 q176 => ?_)
    obtain ⟨rfl, eh174⟩ := q176
    subst h174
    show G w _ h145 1 4 132 #[.val (.int p0), .val (.long p1), .second, .val (.long p2), .second, .val (.long p3), .second, .val (.long p4), .second, .val (.ref b146), .val (.int (0 : Int32)), .val (.long (p2 &&& (2147483647 : Int64))), .second, .val (.long (p3 &&& (2147483647 : Int64))), .second, .val (.long (p4 &&& (2147483647 : Int64))), .second, .val (.int (0 : Int32)), .val (.int (0 : Int32)), .val (.int (0 : Int32)), .val (.int (0 : Int32)), .val (.int (0 : Int32)), .val (.int (0 : Int32)), .unset, .unset, .unset, .unset] [(.int (0 : Int32))]
    refine g_istore C (pc' := 134) (Ls' := #[.val (.int p0), .val (.long p1), .second, .val (.long p2), .second, .val (.long p3), .second, .val (.long p4), .second, .val (.ref b146), .val (.int (0 : Int32)), .val (.long (p2 &&& (2147483647 : Int64))), .second, .val (.long (p3 &&& (2147483647 : Int64))), .second, .val (.long (p4 &&& (2147483647 : Int64))), .second, .val (.int (0 : Int32)), .val (.int (0 : Int32)), .val (.int (0 : Int32)), .val (.int (0 : Int32)), .val (.int (0 : Int32)), .val (.int (0 : Int32)), .val (.int (0 : Int32)), .unset, .unset, .unset]) at_132 rfl rfl rfl ?_
    refine g_iload C (pc' := 136) at_134 rfl rfl ?_
    refine g_iconst C (pc' := 137) (v := (2 : Int32)) at_136 (by decide) rfl ?_
    refine g_icN C (pc' := 140) at_137 rfl (by decide) rfl ?_
    refine g_iload C (pc' := 142) at_140 rfl rfl ?_
    refine g_ifN C (pc' := 145) at_142 rfl (by decide) rfl ?_
    refine g_iload C (pc' := 147) at_145 rfl rfl ?_
    refine g_ifN C (pc' := 150) at_147 rfl (by decide) rfl ?_
    refine g_iload C (pc' := 152) at_150 rfl rfl ?_
    refine g_ifN C (pc' := 155) at_152 rfl (by decide) rfl ?_
    refine g_iload C (pc' := 157) at_155 rfl rfl ?_
    refine g_iload C (pc' := 159) at_157 rfl rfl ?_
    refine g_ifY C (pc' := 166) at_159 rfl (by decide) (by decide) rfl ?_
    refine g_iconst C (pc' := 167) (v := (0 : Int32)) at_166 (by decide) rfl ?_
    refine g_icN C (pc' := 170) at_167 rfl (by decide) rfl ?_
    refine g_iload C (pc' := 172) at_170 rfl rfl ?_
    refine g_iload C (pc' := 174) at_172 rfl rfl ?_
    refine g_icN C (pc' := 177) at_174 rfl (by decide) rfl ?_
    refine g_iload C (pc' := 179) at_177 rfl rfl ?_
    refine g_iload C (pc' := 181) at_179 rfl rfl ?_
    refine g_icN C (pc' := 184) at_181 rfl (by decide) rfl ?_
    refine g_iload C (pc' := 186) at_184 rfl rfl ?_
    refine g_iload C (pc' := 188) at_186 rfl rfl ?_
    refine g_iconst C (pc' := 189) (v := (2 : Int32)) at_188 (by decide) rfl ?_
    refine g_icY C (pc' := 196) at_189 rfl (by decide) (by decide) rfl ?_
    refine g_iconst C (pc' := 197) (v := (0 : Int32)) at_196 (by decide) rfl ?_
    refine g_icN C (pc' := 200) at_197 rfl (by decide) rfl ?_
    refine g_iconst C (pc' := 201) (v := (1 : Int32)) at_200 (by decide) rfl ?_
    refine g_goto C (pc' := 205) at_201 (by decide) rfl ?_
    exact g_zreturn C at_205 rfl rfl (Nat.le_of_ble_eq_true rfl) (Nat.le_of_ble_eq_true rfl) (rfl)
  · rw [e4]
    refine g_istore C (pc' := 14) (Ls' := #[.val (.int p0), .val (.long p1), .second, .val (.long p2), .second, .val (.long p3), .second, .val (.long p4), .second, .val (.ref b146), .val (.int (1 : Int32)), .unset, .unset, .unset, .unset, .unset, .unset, .unset, .unset, .unset, .unset, .unset, .unset, .unset, .unset, .unset, .unset]) at_12 rfl rfl rfl ?_
    refine g_iload C (pc' := 16) at_14 rfl rfl ?_
    refine g_iconst C (pc' := 17) (v := (1 : Int32)) at_16 (by decide) rfl ?_
    refine g_icN C (pc' := 20) at_17 rfl (by decide) rfl ?_
    refine g_aload C (pc' := 22) at_20 rfl rfl rfl ?_
    refine g_virtual C (pc' := 25) (k' := 1) (n' := 4) (argsL := []) (rest := []) (wd hw 29 rfl) (wd hw 30 rfl) (nfSel (wd hw 32 rfl)) (wd hw 32 rfl) (wd hw 31 rfl) (wd hw 2 rfl) (wd hw 33 rfl) (by decide) at_22 pd_2 rfl rfl rfl A149 (giveUp_00 l Z a0 hw n0 h145 f151 H b146 ge_b146 (0 : Int64) (0 : Int64) P152) (Nat.le_of_ble_eq_true rfl) (Nat.le_of_ble_eq_true rfl) (Nat.le_of_ble_eq_true rfl) (Nat.le_of_ble_eq_true rfl) rfl rfl rfl (fun v180 h179 q181 => ?_)
    obtain ⟨rfl, K177, P178⟩ := q181
    have f182 := f151.keep K177 (allS ge_b146 all0)
    have f183 := A149.keep K177
    show G w _ h179 1 4 25 #[.val (.int p0), .val (.long p1), .second, .val (.long p2), .second, .val (.long p3), .second, .val (.long p4), .second, .val (.ref b146), .val (.int (1 : Int32)), .unset, .unset, .unset, .unset, .unset, .unset, .unset, .unset, .unset, .unset, .unset, .unset, .unset, .unset, .unset, .unset] [(.int (1 : Int32))]
    refine g_pop C (pc' := 26) at_25 rfl rfl rfl ?_
    refine g_iload C (pc' := 28) at_26 rfl rfl ?_
    refine g_iconst C (pc' := 29) (v := (2 : Int32)) at_28 (by decide) rfl ?_
    refine g_icY C (pc' := 39) at_29 rfl (by decide) (by decide) rfl ?_
    refine g_iload C (pc' := 41) at_39 rfl rfl ?_
    refine g_iconst C (pc' := 42) (v := (3 : Int32)) at_41 (by decide) rfl ?_
    refine g_icY C (pc' := 56) at_42 rfl (by decide) (by decide) rfl ?_
    refine g_lloadN C (pc' := 57) at_56 rfl rfl ?_
    refine g_ldc2Long C (pc' := 60) (wd hw 9 rfl) at_57 rfl ?_
    refine g_land C (pc' := 61) at_60 rfl rfl ?_
    refine g_lstore C (pc' := 63) (Ls' := #[.val (.int p0), .val (.long p1), .second, .val (.long p2), .second, .val (.long p3), .second, .val (.long p4), .second, .val (.ref b146), .val (.int (1 : Int32)), .val (.long (p2 &&& (2147483647 : Int64))), .second, .unset, .unset, .unset, .unset, .unset, .unset, .unset, .unset, .unset, .unset, .unset, .unset, .unset, .unset]) at_61 rfl rfl rfl ?_
    refine g_lload C (pc' := 65) at_63 rfl rfl ?_
    refine g_ldc2Long C (pc' := 68) (wd hw 9 rfl) at_65 rfl ?_
    refine g_land C (pc' := 69) at_68 rfl rfl ?_
    refine g_lstore C (pc' := 71) (Ls' := #[.val (.int p0), .val (.long p1), .second, .val (.long p2), .second, .val (.long p3), .second, .val (.long p4), .second, .val (.ref b146), .val (.int (1 : Int32)), .val (.long (p2 &&& (2147483647 : Int64))), .second, .val (.long (p3 &&& (2147483647 : Int64))), .second, .unset, .unset, .unset, .unset, .unset, .unset, .unset, .unset, .unset, .unset, .unset, .unset]) at_69 rfl rfl rfl ?_
    refine g_lload C (pc' := 73) at_71 rfl rfl ?_
    refine g_ldc2Long C (pc' := 76) (wd hw 9 rfl) at_73 rfl ?_
    refine g_land C (pc' := 77) at_76 rfl rfl ?_
    refine g_lstore C (pc' := 79) (Ls' := #[.val (.int p0), .val (.long p1), .second, .val (.long p2), .second, .val (.long p3), .second, .val (.long p4), .second, .val (.ref b146), .val (.int (1 : Int32)), .val (.long (p2 &&& (2147483647 : Int64))), .second, .val (.long (p3 &&& (2147483647 : Int64))), .second, .val (.long (p4 &&& (2147483647 : Int64))), .second, .unset, .unset, .unset, .unset, .unset, .unset, .unset, .unset, .unset, .unset]) at_77 rfl rfl rfl ?_
    refine g_aload C (pc' := 81) at_79 rfl rfl rfl ?_
    refine g_lload C (pc' := 83) at_81 rfl rfl ?_
    refine g_virtual C (pc' := 86) (k' := 1) (n' := 4) (argsL := [(.long (p2 &&& (2147483647 : Int64)))]) (rest := []) (wd hw 10 rfl) (wd hw 11 rfl) (nfSel (wd hw 13 rfl)) (wd hw 13 rfl) (wd hw 12 rfl) (wd hw 2 rfl) (wd hw 14 rfl) (by decide) at_83 pd_1 rfl rfl rfl f183 (drops_10 l Z a0 hw n0 h179 f182 H b146 ge_b146 (0 : Int64) (0 : Int64) (p2 &&& (2147483647 : Int64)) P178) (Nat.le_of_ble_eq_true rfl) (Nat.le_of_ble_eq_true rfl) (Nat.le_of_ble_eq_true rfl) (Nat.le_of_ble_eq_true rfl) rfl rfl rfl (fun v185 h184 q186 => ?_)
    obtain ⟨rfl, eh184⟩ := q186
    subst h184
    show G w _ h179 1 4 86 #[.val (.int p0), .val (.long p1), .second, .val (.long p2), .second, .val (.long p3), .second, .val (.long p4), .second, .val (.ref b146), .val (.int (1 : Int32)), .val (.long (p2 &&& (2147483647 : Int64))), .second, .val (.long (p3 &&& (2147483647 : Int64))), .second, .val (.long (p4 &&& (2147483647 : Int64))), .second, .unset, .unset, .unset, .unset, .unset, .unset, .unset, .unset, .unset, .unset] [(.int (0 : Int32))]
    refine g_istore C (pc' := 88) (Ls' := #[.val (.int p0), .val (.long p1), .second, .val (.long p2), .second, .val (.long p3), .second, .val (.long p4), .second, .val (.ref b146), .val (.int (1 : Int32)), .val (.long (p2 &&& (2147483647 : Int64))), .second, .val (.long (p3 &&& (2147483647 : Int64))), .second, .val (.long (p4 &&& (2147483647 : Int64))), .second, .val (.int (0 : Int32)), .unset, .unset, .unset, .unset, .unset, .unset, .unset, .unset, .unset]) at_86 rfl rfl rfl ?_
    refine g_aload C (pc' := 90) at_88 rfl rfl rfl ?_
    refine g_virtual C (pc' := 93) (k' := 1) (n' := 4) (argsL := []) (rest := []) (wd hw 17 rfl) (wd hw 18 rfl) (nfSel (wd hw 20 rfl)) (wd hw 20 rfl) (wd hw 19 rfl) (wd hw 2 rfl) (wd hw 21 rfl) (by decide) at_90 pd_2 rfl rfl rfl f183 (givenUp_10 l Z a0 hw n0 h179 f182 H b146 ge_b146 (0 : Int64) (0 : Int64) P178) (Nat.le_of_ble_eq_true rfl) (Nat.le_of_ble_eq_true rfl) (Nat.le_of_ble_eq_true rfl) (Nat.le_of_ble_eq_true rfl) rfl rfl rfl (fun v188 h187 q189 => ?_)
    obtain ⟨rfl, eh187⟩ := q189
    subst h187
    show G w _ h179 1 4 93 #[.val (.int p0), .val (.long p1), .second, .val (.long p2), .second, .val (.long p3), .second, .val (.long p4), .second, .val (.ref b146), .val (.int (1 : Int32)), .val (.long (p2 &&& (2147483647 : Int64))), .second, .val (.long (p3 &&& (2147483647 : Int64))), .second, .val (.long (p4 &&& (2147483647 : Int64))), .second, .val (.int (0 : Int32)), .unset, .unset, .unset, .unset, .unset, .unset, .unset, .unset, .unset] [(.int (1 : Int32))]
    refine g_istore C (pc' := 95) (Ls' := #[.val (.int p0), .val (.long p1), .second, .val (.long p2), .second, .val (.long p3), .second, .val (.long p4), .second, .val (.ref b146), .val (.int (1 : Int32)), .val (.long (p2 &&& (2147483647 : Int64))), .second, .val (.long (p3 &&& (2147483647 : Int64))), .second, .val (.long (p4 &&& (2147483647 : Int64))), .second, .val (.int (0 : Int32)), .val (.int (1 : Int32)), .unset, .unset, .unset, .unset, .unset, .unset, .unset, .unset]) at_93 rfl rfl rfl ?_
    refine g_aload C (pc' := 97) at_95 rfl rfl rfl ?_
    refine g_lload C (pc' := 99) at_97 rfl rfl ?_
    refine g_virtual C (pc' := 102) (k' := 1) (n' := 4) (argsL := [(.long (p3 &&& (2147483647 : Int64)))]) (rest := []) (wd hw 10 rfl) (wd hw 11 rfl) (nfSel (wd hw 13 rfl)) (wd hw 13 rfl) (wd hw 12 rfl) (wd hw 2 rfl) (wd hw 14 rfl) (by decide) at_99 pd_1 rfl rfl rfl f183 (drops_10 l Z a0 hw n0 h179 f182 H b146 ge_b146 (0 : Int64) (0 : Int64) (p3 &&& (2147483647 : Int64)) P178) (Nat.le_of_ble_eq_true rfl) (Nat.le_of_ble_eq_true rfl) (Nat.le_of_ble_eq_true rfl) (Nat.le_of_ble_eq_true rfl) rfl rfl rfl (fun v191 h190 q192 => ?_)
    obtain ⟨rfl, eh190⟩ := q192
    subst h190
    show G w _ h179 1 4 102 #[.val (.int p0), .val (.long p1), .second, .val (.long p2), .second, .val (.long p3), .second, .val (.long p4), .second, .val (.ref b146), .val (.int (1 : Int32)), .val (.long (p2 &&& (2147483647 : Int64))), .second, .val (.long (p3 &&& (2147483647 : Int64))), .second, .val (.long (p4 &&& (2147483647 : Int64))), .second, .val (.int (0 : Int32)), .val (.int (1 : Int32)), .unset, .unset, .unset, .unset, .unset, .unset, .unset, .unset] [(.int (0 : Int32))]
    refine g_istore C (pc' := 104) (Ls' := #[.val (.int p0), .val (.long p1), .second, .val (.long p2), .second, .val (.long p3), .second, .val (.long p4), .second, .val (.ref b146), .val (.int (1 : Int32)), .val (.long (p2 &&& (2147483647 : Int64))), .second, .val (.long (p3 &&& (2147483647 : Int64))), .second, .val (.long (p4 &&& (2147483647 : Int64))), .second, .val (.int (0 : Int32)), .val (.int (1 : Int32)), .val (.int (0 : Int32)), .unset, .unset, .unset, .unset, .unset, .unset, .unset]) at_102 rfl rfl rfl ?_
    refine g_aload C (pc' := 106) at_104 rfl rfl rfl ?_
    refine g_virtual C (pc' := 109) (k' := 1) (n' := 4) (argsL := []) (rest := []) (wd hw 17 rfl) (wd hw 18 rfl) (nfSel (wd hw 20 rfl)) (wd hw 20 rfl) (wd hw 19 rfl) (wd hw 2 rfl) (wd hw 21 rfl) (by decide) at_106 pd_2 rfl rfl rfl f183 (givenUp_10 l Z a0 hw n0 h179 f182 H b146 ge_b146 (0 : Int64) (0 : Int64) P178) (Nat.le_of_ble_eq_true rfl) (Nat.le_of_ble_eq_true rfl) (Nat.le_of_ble_eq_true rfl) (Nat.le_of_ble_eq_true rfl) rfl rfl rfl (fun v194 h193 q195 => ?_)
    obtain ⟨rfl, eh193⟩ := q195
    subst h193
    show G w _ h179 1 4 109 #[.val (.int p0), .val (.long p1), .second, .val (.long p2), .second, .val (.long p3), .second, .val (.long p4), .second, .val (.ref b146), .val (.int (1 : Int32)), .val (.long (p2 &&& (2147483647 : Int64))), .second, .val (.long (p3 &&& (2147483647 : Int64))), .second, .val (.long (p4 &&& (2147483647 : Int64))), .second, .val (.int (0 : Int32)), .val (.int (1 : Int32)), .val (.int (0 : Int32)), .unset, .unset, .unset, .unset, .unset, .unset, .unset] [(.int (1 : Int32))]
    refine g_istore C (pc' := 111) (Ls' := #[.val (.int p0), .val (.long p1), .second, .val (.long p2), .second, .val (.long p3), .second, .val (.long p4), .second, .val (.ref b146), .val (.int (1 : Int32)), .val (.long (p2 &&& (2147483647 : Int64))), .second, .val (.long (p3 &&& (2147483647 : Int64))), .second, .val (.long (p4 &&& (2147483647 : Int64))), .second, .val (.int (0 : Int32)), .val (.int (1 : Int32)), .val (.int (0 : Int32)), .val (.int (1 : Int32)), .unset, .unset, .unset, .unset, .unset, .unset]) at_109 rfl rfl rfl ?_
    refine g_aload C (pc' := 113) at_111 rfl rfl rfl ?_
    refine g_lload C (pc' := 115) at_113 rfl rfl ?_
    refine g_virtual C (pc' := 118) (k' := 1) (n' := 4) (argsL := [(.long (p4 &&& (2147483647 : Int64)))]) (rest := []) (wd hw 10 rfl) (wd hw 11 rfl) (nfSel (wd hw 13 rfl)) (wd hw 13 rfl) (wd hw 12 rfl) (wd hw 2 rfl) (wd hw 14 rfl) (by decide) at_115 pd_1 rfl rfl rfl f183 (drops_10 l Z a0 hw n0 h179 f182 H b146 ge_b146 (0 : Int64) (0 : Int64) (p4 &&& (2147483647 : Int64)) P178) (Nat.le_of_ble_eq_true rfl) (Nat.le_of_ble_eq_true rfl) (Nat.le_of_ble_eq_true rfl) (Nat.le_of_ble_eq_true rfl) rfl rfl rfl (fun v197 h196 q198 => ?_)
    obtain ⟨rfl, eh196⟩ := q198
    subst h196
    show G w _ h179 1 4 118 #[.val (.int p0), .val (.long p1), .second, .val (.long p2), .second, .val (.long p3), .second, .val (.long p4), .second, .val (.ref b146), .val (.int (1 : Int32)), .val (.long (p2 &&& (2147483647 : Int64))), .second, .val (.long (p3 &&& (2147483647 : Int64))), .second, .val (.long (p4 &&& (2147483647 : Int64))), .second, .val (.int (0 : Int32)), .val (.int (1 : Int32)), .val (.int (0 : Int32)), .val (.int (1 : Int32)), .unset, .unset, .unset, .unset, .unset, .unset] [(.int (0 : Int32))]
    refine g_istore C (pc' := 120) (Ls' := #[.val (.int p0), .val (.long p1), .second, .val (.long p2), .second, .val (.long p3), .second, .val (.long p4), .second, .val (.ref b146), .val (.int (1 : Int32)), .val (.long (p2 &&& (2147483647 : Int64))), .second, .val (.long (p3 &&& (2147483647 : Int64))), .second, .val (.long (p4 &&& (2147483647 : Int64))), .second, .val (.int (0 : Int32)), .val (.int (1 : Int32)), .val (.int (0 : Int32)), .val (.int (1 : Int32)), .val (.int (0 : Int32)), .unset, .unset, .unset, .unset, .unset]) at_118 rfl rfl rfl ?_
    refine g_aload C (pc' := 122) at_120 rfl rfl rfl ?_
    refine g_virtual C (pc' := 125) (k' := 1) (n' := 4) (argsL := []) (rest := []) (wd hw 17 rfl) (wd hw 18 rfl) (nfSel (wd hw 20 rfl)) (wd hw 20 rfl) (wd hw 19 rfl) (wd hw 2 rfl) (wd hw 21 rfl) (by decide) at_122 pd_2 rfl rfl rfl f183 (givenUp_10 l Z a0 hw n0 h179 f182 H b146 ge_b146 (0 : Int64) (0 : Int64) P178) (Nat.le_of_ble_eq_true rfl) (Nat.le_of_ble_eq_true rfl) (Nat.le_of_ble_eq_true rfl) (Nat.le_of_ble_eq_true rfl) rfl rfl rfl (fun v200 h199 q201 => ?_)
    obtain ⟨rfl, eh199⟩ := q201
    subst h199
    show G w _ h179 1 4 125 #[.val (.int p0), .val (.long p1), .second, .val (.long p2), .second, .val (.long p3), .second, .val (.long p4), .second, .val (.ref b146), .val (.int (1 : Int32)), .val (.long (p2 &&& (2147483647 : Int64))), .second, .val (.long (p3 &&& (2147483647 : Int64))), .second, .val (.long (p4 &&& (2147483647 : Int64))), .second, .val (.int (0 : Int32)), .val (.int (1 : Int32)), .val (.int (0 : Int32)), .val (.int (1 : Int32)), .val (.int (0 : Int32)), .unset, .unset, .unset, .unset, .unset] [(.int (1 : Int32))]
    refine g_istore C (pc' := 127) (Ls' := #[.val (.int p0), .val (.long p1), .second, .val (.long p2), .second, .val (.long p3), .second, .val (.long p4), .second, .val (.ref b146), .val (.int (1 : Int32)), .val (.long (p2 &&& (2147483647 : Int64))), .second, .val (.long (p3 &&& (2147483647 : Int64))), .second, .val (.long (p4 &&& (2147483647 : Int64))), .second, .val (.int (0 : Int32)), .val (.int (1 : Int32)), .val (.int (0 : Int32)), .val (.int (1 : Int32)), .val (.int (0 : Int32)), .val (.int (1 : Int32)), .unset, .unset, .unset, .unset]) at_125 rfl rfl rfl ?_
    refine g_aload C (pc' := 129) at_127 rfl rfl rfl ?_
    refine g_virtual C (pc' := 132) (k' := 1) (n' := 4) (argsL := []) (rest := []) (wd hw 24 rfl) (wd hw 25 rfl) (nfSel (wd hw 27 rfl)) (wd hw 27 rfl) (wd hw 26 rfl) (wd hw 2 rfl) (wd hw 28 rfl) (by decide) at_129 pd_2 rfl rfl rfl f183 (isLetGo_10 l Z a0 hw n0 h179 f182 H b146 ge_b146 (0 : Int64) (0 : Int64) P178) (Nat.le_of_ble_eq_true rfl) (Nat.le_of_ble_eq_true rfl) (Nat.le_of_ble_eq_true rfl) (Nat.le_of_ble_eq_true rfl) rfl rfl rfl (fun v203 h202 q204 => ?_)
    obtain ⟨rfl, eh202⟩ := q204
    subst h202
    show G w _ h179 1 4 132 #[.val (.int p0), .val (.long p1), .second, .val (.long p2), .second, .val (.long p3), .second, .val (.long p4), .second, .val (.ref b146), .val (.int (1 : Int32)), .val (.long (p2 &&& (2147483647 : Int64))), .second, .val (.long (p3 &&& (2147483647 : Int64))), .second, .val (.long (p4 &&& (2147483647 : Int64))), .second, .val (.int (0 : Int32)), .val (.int (1 : Int32)), .val (.int (0 : Int32)), .val (.int (1 : Int32)), .val (.int (0 : Int32)), .val (.int (1 : Int32)), .unset, .unset, .unset, .unset] [(.int (0 : Int32))]
    refine g_istore C (pc' := 134) (Ls' := #[.val (.int p0), .val (.long p1), .second, .val (.long p2), .second, .val (.long p3), .second, .val (.long p4), .second, .val (.ref b146), .val (.int (1 : Int32)), .val (.long (p2 &&& (2147483647 : Int64))), .second, .val (.long (p3 &&& (2147483647 : Int64))), .second, .val (.long (p4 &&& (2147483647 : Int64))), .second, .val (.int (0 : Int32)), .val (.int (1 : Int32)), .val (.int (0 : Int32)), .val (.int (1 : Int32)), .val (.int (0 : Int32)), .val (.int (1 : Int32)), .val (.int (0 : Int32)), .unset, .unset, .unset]) at_132 rfl rfl rfl ?_
    refine g_iload C (pc' := 136) at_134 rfl rfl ?_
    refine g_iconst C (pc' := 137) (v := (2 : Int32)) at_136 (by decide) rfl ?_
    refine g_icN C (pc' := 140) at_137 rfl (by decide) rfl ?_
    refine g_iload C (pc' := 142) at_140 rfl rfl ?_
    refine g_ifN C (pc' := 145) at_142 rfl (by decide) rfl ?_
    refine g_iload C (pc' := 147) at_145 rfl rfl ?_
    refine g_ifN C (pc' := 150) at_147 rfl (by decide) rfl ?_
    refine g_iload C (pc' := 152) at_150 rfl rfl ?_
    refine g_ifN C (pc' := 155) at_152 rfl (by decide) rfl ?_
    refine g_iload C (pc' := 157) at_155 rfl rfl ?_
    refine g_iload C (pc' := 159) at_157 rfl rfl ?_
    refine g_ifN C (pc' := 162) at_159 rfl (by decide) rfl ?_
    refine g_iconst C (pc' := 163) (v := (1 : Int32)) at_162 (by decide) rfl ?_
    refine g_goto C (pc' := 167) at_163 (by decide) rfl ?_
    refine g_icN C (pc' := 170) at_167 rfl (by decide) rfl ?_
    refine g_iload C (pc' := 172) at_170 rfl rfl ?_
    refine g_iload C (pc' := 174) at_172 rfl rfl ?_
    refine g_icN C (pc' := 177) at_174 rfl (by decide) rfl ?_
    refine g_iload C (pc' := 179) at_177 rfl rfl ?_
    refine g_iload C (pc' := 181) at_179 rfl rfl ?_
    refine g_icN C (pc' := 184) at_181 rfl (by decide) rfl ?_
    refine g_iload C (pc' := 186) at_184 rfl rfl ?_
    refine g_iload C (pc' := 188) at_186 rfl rfl ?_
    refine g_iconst C (pc' := 189) (v := (2 : Int32)) at_188 (by decide) rfl ?_
    refine g_icY C (pc' := 196) at_189 rfl (by decide) (by decide) rfl ?_
    refine g_iconst C (pc' := 197) (v := (0 : Int32)) at_196 (by decide) rfl ?_
    refine g_icN C (pc' := 200) at_197 rfl (by decide) rfl ?_
    refine g_iconst C (pc' := 201) (v := (1 : Int32)) at_200 (by decide) rfl ?_
    refine g_goto C (pc' := 205) at_201 (by decide) rfl ?_
    exact g_zreturn C at_205 rfl rfl (Nat.le_of_ble_eq_true rfl) (Nat.le_of_ble_eq_true rfl) (rfl)
  · rw [e4]
    refine g_istore C (pc' := 14) (Ls' := #[.val (.int p0), .val (.long p1), .second, .val (.long p2), .second, .val (.long p3), .second, .val (.long p4), .second, .val (.ref b146), .val (.int (2 : Int32)), .unset, .unset, .unset, .unset, .unset, .unset, .unset, .unset, .unset, .unset, .unset, .unset, .unset, .unset, .unset, .unset]) at_12 rfl rfl rfl ?_
    refine g_iload C (pc' := 16) at_14 rfl rfl ?_
    refine g_iconst C (pc' := 17) (v := (1 : Int32)) at_16 (by decide) rfl ?_
    refine g_icY C (pc' := 26) at_17 rfl (by decide) (by decide) rfl ?_
    refine g_iload C (pc' := 28) at_26 rfl rfl ?_
    refine g_iconst C (pc' := 29) (v := (2 : Int32)) at_28 (by decide) rfl ?_
    refine g_icN C (pc' := 32) at_29 rfl (by decide) rfl ?_
    refine g_aload C (pc' := 34) at_32 rfl rfl rfl ?_
    refine g_lloadN C (pc' := 35) at_34 rfl rfl ?_
    refine g_virtual C (pc' := 38) (k' := 1) (n' := 4) (argsL := [(.long p1)]) (rest := []) (wd hw 34 rfl) (wd hw 35 rfl) (nfSel (wd hw 37 rfl)) (wd hw 37 rfl) (wd hw 36 rfl) (wd hw 2 rfl) (wd hw 38 rfl) (by decide) at_35 pd_1 rfl rfl rfl A149 (letGo_00 l Z a0 hw n0 h145 f151 H b146 ge_b146 (0 : Int64) (0 : Int64) p1 P152) (Nat.le_of_ble_eq_true rfl) (Nat.le_of_ble_eq_true rfl) (Nat.le_of_ble_eq_true rfl) (Nat.le_of_ble_eq_true rfl) rfl rfl rfl (fun v208 h207 q209 => ?_)
    obtain ⟨rfl, K205, P206⟩ := q209
    have f210 := f151.keep K205 (allS ge_b146 all0)
    have f211 := A149.keep K205
    show G w _ h207 1 4 38 #[.val (.int p0), .val (.long p1), .second, .val (.long p2), .second, .val (.long p3), .second, .val (.long p4), .second, .val (.ref b146), .val (.int (2 : Int32)), .unset, .unset, .unset, .unset, .unset, .unset, .unset, .unset, .unset, .unset, .unset, .unset, .unset, .unset, .unset, .unset] [(.int (1 : Int32))]
    refine g_pop C (pc' := 39) at_38 rfl rfl rfl ?_
    refine g_iload C (pc' := 41) at_39 rfl rfl ?_
    refine g_iconst C (pc' := 42) (v := (3 : Int32)) at_41 (by decide) rfl ?_
    refine g_icY C (pc' := 56) at_42 rfl (by decide) (by decide) rfl ?_
    refine g_lloadN C (pc' := 57) at_56 rfl rfl ?_
    refine g_ldc2Long C (pc' := 60) (wd hw 9 rfl) at_57 rfl ?_
    refine g_land C (pc' := 61) at_60 rfl rfl ?_
    refine g_lstore C (pc' := 63) (Ls' := #[.val (.int p0), .val (.long p1), .second, .val (.long p2), .second, .val (.long p3), .second, .val (.long p4), .second, .val (.ref b146), .val (.int (2 : Int32)), .val (.long (p2 &&& (2147483647 : Int64))), .second, .unset, .unset, .unset, .unset, .unset, .unset, .unset, .unset, .unset, .unset, .unset, .unset, .unset, .unset]) at_61 rfl rfl rfl ?_
    refine g_lload C (pc' := 65) at_63 rfl rfl ?_
    refine g_ldc2Long C (pc' := 68) (wd hw 9 rfl) at_65 rfl ?_
    refine g_land C (pc' := 69) at_68 rfl rfl ?_
    refine g_lstore C (pc' := 71) (Ls' := #[.val (.int p0), .val (.long p1), .second, .val (.long p2), .second, .val (.long p3), .second, .val (.long p4), .second, .val (.ref b146), .val (.int (2 : Int32)), .val (.long (p2 &&& (2147483647 : Int64))), .second, .val (.long (p3 &&& (2147483647 : Int64))), .second, .unset, .unset, .unset, .unset, .unset, .unset, .unset, .unset, .unset, .unset, .unset, .unset]) at_69 rfl rfl rfl ?_
    refine g_lload C (pc' := 73) at_71 rfl rfl ?_
    refine g_ldc2Long C (pc' := 76) (wd hw 9 rfl) at_73 rfl ?_
    refine g_land C (pc' := 77) at_76 rfl rfl ?_
    refine g_lstore C (pc' := 79) (Ls' := #[.val (.int p0), .val (.long p1), .second, .val (.long p2), .second, .val (.long p3), .second, .val (.long p4), .second, .val (.ref b146), .val (.int (2 : Int32)), .val (.long (p2 &&& (2147483647 : Int64))), .second, .val (.long (p3 &&& (2147483647 : Int64))), .second, .val (.long (p4 &&& (2147483647 : Int64))), .second, .unset, .unset, .unset, .unset, .unset, .unset, .unset, .unset, .unset, .unset]) at_77 rfl rfl rfl ?_
    by_cases hx : (8192 : Int64) < ((0 : Int64) + (p2 &&& (2147483647 : Int64)))
    · have hx' : (8192 : Int64) < (p2 &&& (2147483647 : Int64)) := by rw [Int64.zero_add] at hx; exact hx
      refine g_aload C (pc' := 81) at_79 rfl rfl rfl ?_
      refine g_lload C (pc' := 83) at_81 rfl rfl ?_
      refine g_virtual C (pc' := 86) (k' := 1) (n' := 4) (argsL := [(.long (p2 &&& (2147483647 : Int64)))]) (rest := []) (wd hw 10 rfl) (wd hw 11 rfl) (nfSel (wd hw 13 rfl)) (wd hw 13 rfl) (wd hw 12 rfl) (wd hw 2 rfl) (wd hw 14 rfl) (by decide) at_83 pd_1 rfl rfl rfl f211 (drops_1 l Z a0 hw n0 h207 f210 H b146 ge_b146 p1 (0 : Int64) (p2 &&& (2147483647 : Int64)) hx P206) (Nat.le_of_ble_eq_true rfl) (Nat.le_of_ble_eq_true rfl) (Nat.le_of_ble_eq_true rfl) (Nat.le_of_ble_eq_true rfl) rfl rfl rfl (fun v215 h214 q216 => ?_)
      obtain ⟨rfl, K212, P213⟩ := q216
      have f217 := f210.keep K212 (allS ge_b146 all0)
      have f218 := f211.keep K212
      show G w _ h214 1 4 86 #[.val (.int p0), .val (.long p1), .second, .val (.long p2), .second, .val (.long p3), .second, .val (.long p4), .second, .val (.ref b146), .val (.int (2 : Int32)), .val (.long (p2 &&& (2147483647 : Int64))), .second, .val (.long (p3 &&& (2147483647 : Int64))), .second, .val (.long (p4 &&& (2147483647 : Int64))), .second, .unset, .unset, .unset, .unset, .unset, .unset, .unset, .unset, .unset, .unset] [(.int (1 : Int32))]
      refine g_istore C (pc' := 88) (Ls' := #[.val (.int p0), .val (.long p1), .second, .val (.long p2), .second, .val (.long p3), .second, .val (.long p4), .second, .val (.ref b146), .val (.int (2 : Int32)), .val (.long (p2 &&& (2147483647 : Int64))), .second, .val (.long (p3 &&& (2147483647 : Int64))), .second, .val (.long (p4 &&& (2147483647 : Int64))), .second, .val (.int (1 : Int32)), .unset, .unset, .unset, .unset, .unset, .unset, .unset, .unset, .unset]) at_86 rfl rfl rfl ?_
      refine g_aload C (pc' := 90) at_88 rfl rfl rfl ?_
      refine g_virtual C (pc' := 93) (k' := 1) (n' := 4) (argsL := []) (rest := []) (wd hw 17 rfl) (wd hw 18 rfl) (nfSel (wd hw 20 rfl)) (wd hw 20 rfl) (wd hw 19 rfl) (wd hw 2 rfl) (wd hw 21 rfl) (by decide) at_90 pd_2 rfl rfl rfl f218 (givenUp_11 l Z a0 hw n0 h214 f217 H b146 ge_b146 p1 ((0 : Int64) + (p2 &&& (2147483647 : Int64))) P213) (Nat.le_of_ble_eq_true rfl) (Nat.le_of_ble_eq_true rfl) (Nat.le_of_ble_eq_true rfl) (Nat.le_of_ble_eq_true rfl) rfl rfl rfl (fun v220 h219 q221 => ?_)
      obtain ⟨rfl, eh219⟩ := q221
      subst h219
      show G w _ h214 1 4 93 #[.val (.int p0), .val (.long p1), .second, .val (.long p2), .second, .val (.long p3), .second, .val (.long p4), .second, .val (.ref b146), .val (.int (2 : Int32)), .val (.long (p2 &&& (2147483647 : Int64))), .second, .val (.long (p3 &&& (2147483647 : Int64))), .second, .val (.long (p4 &&& (2147483647 : Int64))), .second, .val (.int (1 : Int32)), .unset, .unset, .unset, .unset, .unset, .unset, .unset, .unset, .unset] [(.int (1 : Int32))]
      refine g_istore C (pc' := 95) (Ls' := #[.val (.int p0), .val (.long p1), .second, .val (.long p2), .second, .val (.long p3), .second, .val (.long p4), .second, .val (.ref b146), .val (.int (2 : Int32)), .val (.long (p2 &&& (2147483647 : Int64))), .second, .val (.long (p3 &&& (2147483647 : Int64))), .second, .val (.long (p4 &&& (2147483647 : Int64))), .second, .val (.int (1 : Int32)), .val (.int (1 : Int32)), .unset, .unset, .unset, .unset, .unset, .unset, .unset, .unset]) at_93 rfl rfl rfl ?_
      refine g_aload C (pc' := 97) at_95 rfl rfl rfl ?_
      refine g_lload C (pc' := 99) at_97 rfl rfl ?_
      refine g_virtual C (pc' := 102) (k' := 1) (n' := 4) (argsL := [(.long (p3 &&& (2147483647 : Int64)))]) (rest := []) (wd hw 10 rfl) (wd hw 11 rfl) (nfSel (wd hw 13 rfl)) (wd hw 13 rfl) (wd hw 12 rfl) (wd hw 2 rfl) (wd hw 14 rfl) (by decide) at_99 pd_1 rfl rfl rfl f218 (drops_11 l Z a0 hw n0 h214 f217 H b146 ge_b146 p1 ((0 : Int64) + (p2 &&& (2147483647 : Int64))) (p3 &&& (2147483647 : Int64)) P213) (Nat.le_of_ble_eq_true rfl) (Nat.le_of_ble_eq_true rfl) (Nat.le_of_ble_eq_true rfl) (Nat.le_of_ble_eq_true rfl) rfl rfl rfl (fun v223 h222 q224 => ?_)
      obtain ⟨rfl, eh222⟩ := q224
      subst h222
      show G w _ h214 1 4 102 #[.val (.int p0), .val (.long p1), .second, .val (.long p2), .second, .val (.long p3), .second, .val (.long p4), .second, .val (.ref b146), .val (.int (2 : Int32)), .val (.long (p2 &&& (2147483647 : Int64))), .second, .val (.long (p3 &&& (2147483647 : Int64))), .second, .val (.long (p4 &&& (2147483647 : Int64))), .second, .val (.int (1 : Int32)), .val (.int (1 : Int32)), .unset, .unset, .unset, .unset, .unset, .unset, .unset, .unset] [(.int (0 : Int32))]
      refine g_istore C (pc' := 104) (Ls' := #[.val (.int p0), .val (.long p1), .second, .val (.long p2), .second, .val (.long p3), .second, .val (.long p4), .second, .val (.ref b146), .val (.int (2 : Int32)), .val (.long (p2 &&& (2147483647 : Int64))), .second, .val (.long (p3 &&& (2147483647 : Int64))), .second, .val (.long (p4 &&& (2147483647 : Int64))), .second, .val (.int (1 : Int32)), .val (.int (1 : Int32)), .val (.int (0 : Int32)), .unset, .unset, .unset, .unset, .unset, .unset, .unset]) at_102 rfl rfl rfl ?_
      refine g_aload C (pc' := 106) at_104 rfl rfl rfl ?_
      refine g_virtual C (pc' := 109) (k' := 1) (n' := 4) (argsL := []) (rest := []) (wd hw 17 rfl) (wd hw 18 rfl) (nfSel (wd hw 20 rfl)) (wd hw 20 rfl) (wd hw 19 rfl) (wd hw 2 rfl) (wd hw 21 rfl) (by decide) at_106 pd_2 rfl rfl rfl f218 (givenUp_11 l Z a0 hw n0 h214 f217 H b146 ge_b146 p1 ((0 : Int64) + (p2 &&& (2147483647 : Int64))) P213) (Nat.le_of_ble_eq_true rfl) (Nat.le_of_ble_eq_true rfl) (Nat.le_of_ble_eq_true rfl) (Nat.le_of_ble_eq_true rfl) rfl rfl rfl (fun v226 h225 q227 => ?_)
      obtain ⟨rfl, eh225⟩ := q227
      subst h225
      show G w _ h214 1 4 109 #[.val (.int p0), .val (.long p1), .second, .val (.long p2), .second, .val (.long p3), .second, .val (.long p4), .second, .val (.ref b146), .val (.int (2 : Int32)), .val (.long (p2 &&& (2147483647 : Int64))), .second, .val (.long (p3 &&& (2147483647 : Int64))), .second, .val (.long (p4 &&& (2147483647 : Int64))), .second, .val (.int (1 : Int32)), .val (.int (1 : Int32)), .val (.int (0 : Int32)), .unset, .unset, .unset, .unset, .unset, .unset, .unset] [(.int (1 : Int32))]
      refine g_istore C (pc' := 111) (Ls' := #[.val (.int p0), .val (.long p1), .second, .val (.long p2), .second, .val (.long p3), .second, .val (.long p4), .second, .val (.ref b146), .val (.int (2 : Int32)), .val (.long (p2 &&& (2147483647 : Int64))), .second, .val (.long (p3 &&& (2147483647 : Int64))), .second, .val (.long (p4 &&& (2147483647 : Int64))), .second, .val (.int (1 : Int32)), .val (.int (1 : Int32)), .val (.int (0 : Int32)), .val (.int (1 : Int32)), .unset, .unset, .unset, .unset, .unset, .unset]) at_109 rfl rfl rfl ?_
      refine g_aload C (pc' := 113) at_111 rfl rfl rfl ?_
      refine g_lload C (pc' := 115) at_113 rfl rfl ?_
      refine g_virtual C (pc' := 118) (k' := 1) (n' := 4) (argsL := [(.long (p4 &&& (2147483647 : Int64)))]) (rest := []) (wd hw 10 rfl) (wd hw 11 rfl) (nfSel (wd hw 13 rfl)) (wd hw 13 rfl) (wd hw 12 rfl) (wd hw 2 rfl) (wd hw 14 rfl) (by decide) at_115 pd_1 rfl rfl rfl f218 (drops_11 l Z a0 hw n0 h214 f217 H b146 ge_b146 p1 ((0 : Int64) + (p2 &&& (2147483647 : Int64))) (p4 &&& (2147483647 : Int64)) P213) (Nat.le_of_ble_eq_true rfl) (Nat.le_of_ble_eq_true rfl) (Nat.le_of_ble_eq_true rfl) (Nat.le_of_ble_eq_true rfl) rfl rfl rfl (fun v229 h228 q230 => ?_)
      obtain ⟨rfl, eh228⟩ := q230
      subst h228
      show G w _ h214 1 4 118 #[.val (.int p0), .val (.long p1), .second, .val (.long p2), .second, .val (.long p3), .second, .val (.long p4), .second, .val (.ref b146), .val (.int (2 : Int32)), .val (.long (p2 &&& (2147483647 : Int64))), .second, .val (.long (p3 &&& (2147483647 : Int64))), .second, .val (.long (p4 &&& (2147483647 : Int64))), .second, .val (.int (1 : Int32)), .val (.int (1 : Int32)), .val (.int (0 : Int32)), .val (.int (1 : Int32)), .unset, .unset, .unset, .unset, .unset, .unset] [(.int (0 : Int32))]
      refine g_istore C (pc' := 120) (Ls' := #[.val (.int p0), .val (.long p1), .second, .val (.long p2), .second, .val (.long p3), .second, .val (.long p4), .second, .val (.ref b146), .val (.int (2 : Int32)), .val (.long (p2 &&& (2147483647 : Int64))), .second, .val (.long (p3 &&& (2147483647 : Int64))), .second, .val (.long (p4 &&& (2147483647 : Int64))), .second, .val (.int (1 : Int32)), .val (.int (1 : Int32)), .val (.int (0 : Int32)), .val (.int (1 : Int32)), .val (.int (0 : Int32)), .unset, .unset, .unset, .unset, .unset]) at_118 rfl rfl rfl ?_
      refine g_aload C (pc' := 122) at_120 rfl rfl rfl ?_
      refine g_virtual C (pc' := 125) (k' := 1) (n' := 4) (argsL := []) (rest := []) (wd hw 17 rfl) (wd hw 18 rfl) (nfSel (wd hw 20 rfl)) (wd hw 20 rfl) (wd hw 19 rfl) (wd hw 2 rfl) (wd hw 21 rfl) (by decide) at_122 pd_2 rfl rfl rfl f218 (givenUp_11 l Z a0 hw n0 h214 f217 H b146 ge_b146 p1 ((0 : Int64) + (p2 &&& (2147483647 : Int64))) P213) (Nat.le_of_ble_eq_true rfl) (Nat.le_of_ble_eq_true rfl) (Nat.le_of_ble_eq_true rfl) (Nat.le_of_ble_eq_true rfl) rfl rfl rfl (fun v232 h231 q233 => ?_)
      obtain ⟨rfl, eh231⟩ := q233
      subst h231
      show G w _ h214 1 4 125 #[.val (.int p0), .val (.long p1), .second, .val (.long p2), .second, .val (.long p3), .second, .val (.long p4), .second, .val (.ref b146), .val (.int (2 : Int32)), .val (.long (p2 &&& (2147483647 : Int64))), .second, .val (.long (p3 &&& (2147483647 : Int64))), .second, .val (.long (p4 &&& (2147483647 : Int64))), .second, .val (.int (1 : Int32)), .val (.int (1 : Int32)), .val (.int (0 : Int32)), .val (.int (1 : Int32)), .val (.int (0 : Int32)), .unset, .unset, .unset, .unset, .unset] [(.int (1 : Int32))]
      refine g_istore C (pc' := 127) (Ls' := #[.val (.int p0), .val (.long p1), .second, .val (.long p2), .second, .val (.long p3), .second, .val (.long p4), .second, .val (.ref b146), .val (.int (2 : Int32)), .val (.long (p2 &&& (2147483647 : Int64))), .second, .val (.long (p3 &&& (2147483647 : Int64))), .second, .val (.long (p4 &&& (2147483647 : Int64))), .second, .val (.int (1 : Int32)), .val (.int (1 : Int32)), .val (.int (0 : Int32)), .val (.int (1 : Int32)), .val (.int (0 : Int32)), .val (.int (1 : Int32)), .unset, .unset, .unset, .unset]) at_125 rfl rfl rfl ?_
      refine g_aload C (pc' := 129) at_127 rfl rfl rfl ?_
      refine g_virtual C (pc' := 132) (k' := 1) (n' := 4) (argsL := []) (rest := []) (wd hw 24 rfl) (wd hw 25 rfl) (nfSel (wd hw 27 rfl)) (wd hw 27 rfl) (wd hw 26 rfl) (wd hw 2 rfl) (wd hw 28 rfl) (by decide) at_129 pd_2 rfl rfl rfl f218 (isLetGo_11 l Z a0 hw n0 h214 f217 H b146 ge_b146 p1 ((0 : Int64) + (p2 &&& (2147483647 : Int64))) P213) (Nat.le_of_ble_eq_true rfl) (Nat.le_of_ble_eq_true rfl) (Nat.le_of_ble_eq_true rfl) (Nat.le_of_ble_eq_true rfl) rfl rfl rfl (fun v235 h234 q236 => ?_)
      obtain ⟨rfl, eh234⟩ := q236
      subst h234
      show G w _ h214 1 4 132 #[.val (.int p0), .val (.long p1), .second, .val (.long p2), .second, .val (.long p3), .second, .val (.long p4), .second, .val (.ref b146), .val (.int (2 : Int32)), .val (.long (p2 &&& (2147483647 : Int64))), .second, .val (.long (p3 &&& (2147483647 : Int64))), .second, .val (.long (p4 &&& (2147483647 : Int64))), .second, .val (.int (1 : Int32)), .val (.int (1 : Int32)), .val (.int (0 : Int32)), .val (.int (1 : Int32)), .val (.int (0 : Int32)), .val (.int (1 : Int32)), .unset, .unset, .unset, .unset] [(.int (1 : Int32))]
      refine g_istore C (pc' := 134) (Ls' := #[.val (.int p0), .val (.long p1), .second, .val (.long p2), .second, .val (.long p3), .second, .val (.long p4), .second, .val (.ref b146), .val (.int (2 : Int32)), .val (.long (p2 &&& (2147483647 : Int64))), .second, .val (.long (p3 &&& (2147483647 : Int64))), .second, .val (.long (p4 &&& (2147483647 : Int64))), .second, .val (.int (1 : Int32)), .val (.int (1 : Int32)), .val (.int (0 : Int32)), .val (.int (1 : Int32)), .val (.int (0 : Int32)), .val (.int (1 : Int32)), .val (.int (1 : Int32)), .unset, .unset, .unset]) at_132 rfl rfl rfl ?_
      refine g_iload C (pc' := 136) at_134 rfl rfl ?_
      refine g_iconst C (pc' := 137) (v := (2 : Int32)) at_136 (by decide) rfl ?_
      refine g_icY C (pc' := 206) at_137 rfl (by decide) (by decide) rfl ?_
      refine g_lload C (pc' := 208) at_206 rfl rfl ?_
      refine g_ldc2Long C (pc' := 211) (wd hw 44 rfl) at_208 rfl ?_
      refine g_lcmp C (pc' := 212) at_211 rfl rfl ?_
      refine g_ifN C (pc' := 215) at_212 rfl (says_f (cd := .le) (fun q => q ((lw_gt _ _).mpr hx'))) rfl ?_
      refine g_iconst C (pc' := 216) (v := (1 : Int32)) at_215 (by decide) rfl ?_
      refine g_goto C (pc' := 220) at_216 (by decide) rfl ?_
      refine g_istore C (pc' := 222) (Ls' := #[.val (.int p0), .val (.long p1), .second, .val (.long p2), .second, .val (.long p3), .second, .val (.long p4), .second, .val (.ref b146), .val (.int (2 : Int32)), .val (.long (p2 &&& (2147483647 : Int64))), .second, .val (.long (p3 &&& (2147483647 : Int64))), .second, .val (.long (p4 &&& (2147483647 : Int64))), .second, .val (.int (1 : Int32)), .val (.int (1 : Int32)), .val (.int (0 : Int32)), .val (.int (1 : Int32)), .val (.int (0 : Int32)), .val (.int (1 : Int32)), .val (.int (1 : Int32)), .val (.int (1 : Int32)), .unset, .unset]) at_220 rfl rfl rfl ?_
      refine g_iload C (pc' := 224) at_222 rfl rfl ?_
      refine g_ifY C (pc' := 239) at_224 rfl (by decide) (by decide) rfl ?_
      refine g_iconst C (pc' := 240) (v := (1 : Int32)) at_239 (by decide) rfl ?_
      refine g_goto C (pc' := 244) at_240 (by decide) rfl ?_
      refine g_istore C (pc' := 246) (Ls' := #[.val (.int p0), .val (.long p1), .second, .val (.long p2), .second, .val (.long p3), .second, .val (.long p4), .second, .val (.ref b146), .val (.int (2 : Int32)), .val (.long (p2 &&& (2147483647 : Int64))), .second, .val (.long (p3 &&& (2147483647 : Int64))), .second, .val (.long (p4 &&& (2147483647 : Int64))), .second, .val (.int (1 : Int32)), .val (.int (1 : Int32)), .val (.int (0 : Int32)), .val (.int (1 : Int32)), .val (.int (0 : Int32)), .val (.int (1 : Int32)), .val (.int (1 : Int32)), .val (.int (1 : Int32)), .val (.int (1 : Int32)), .unset]) at_244 rfl rfl rfl ?_
      refine g_iload C (pc' := 248) at_246 rfl rfl ?_
      refine g_ifY C (pc' := 266) at_248 rfl (by decide) (by decide) rfl ?_
      refine g_iconst C (pc' := 267) (v := (1 : Int32)) at_266 (by decide) rfl ?_
      refine g_goto C (pc' := 271) at_267 (by decide) rfl ?_
      refine g_istore C (pc' := 273) (Ls' := #[.val (.int p0), .val (.long p1), .second, .val (.long p2), .second, .val (.long p3), .second, .val (.long p4), .second, .val (.ref b146), .val (.int (2 : Int32)), .val (.long (p2 &&& (2147483647 : Int64))), .second, .val (.long (p3 &&& (2147483647 : Int64))), .second, .val (.long (p4 &&& (2147483647 : Int64))), .second, .val (.int (1 : Int32)), .val (.int (1 : Int32)), .val (.int (0 : Int32)), .val (.int (1 : Int32)), .val (.int (0 : Int32)), .val (.int (1 : Int32)), .val (.int (1 : Int32)), .val (.int (1 : Int32)), .val (.int (1 : Int32)), .val (.int (1 : Int32))]) at_271 rfl rfl rfl ?_
      refine g_iload C (pc' := 275) at_273 rfl rfl ?_
      refine g_ifN C (pc' := 278) at_275 rfl (by decide) rfl ?_
      refine g_iload C (pc' := 280) at_278 rfl rfl ?_
      refine g_iload C (pc' := 282) at_280 rfl rfl ?_
      refine g_icN C (pc' := 285) at_282 rfl (by decide) rfl ?_
      refine g_iload C (pc' := 287) at_285 rfl rfl ?_
      refine g_iload C (pc' := 289) at_287 rfl rfl ?_
      refine g_ifY C (pc' := 296) at_289 rfl (by decide) (by decide) rfl ?_
      refine g_iconst C (pc' := 297) (v := (0 : Int32)) at_296 (by decide) rfl ?_
      refine g_icN C (pc' := 300) at_297 rfl (by decide) rfl ?_
      refine g_iload C (pc' := 302) at_300 rfl rfl ?_
      refine g_iload C (pc' := 304) at_302 rfl rfl ?_
      refine g_icN C (pc' := 307) at_304 rfl (by decide) rfl ?_
      refine g_iload C (pc' := 309) at_307 rfl rfl ?_
      refine g_iload C (pc' := 311) at_309 rfl rfl ?_
      refine g_ifY C (pc' := 318) at_311 rfl (by decide) (by decide) rfl ?_
      refine g_iconst C (pc' := 319) (v := (0 : Int32)) at_318 (by decide) rfl ?_
      refine g_icN C (pc' := 322) at_319 rfl (by decide) rfl ?_
      refine g_iload C (pc' := 324) at_322 rfl rfl ?_
      refine g_iload C (pc' := 326) at_324 rfl rfl ?_
      refine g_icN C (pc' := 329) at_326 rfl (by decide) rfl ?_
      refine g_iload C (pc' := 331) at_329 rfl rfl ?_
      refine g_ifN C (pc' := 334) at_331 rfl (by decide) rfl ?_
      refine g_iconst C (pc' := 335) (v := (1 : Int32)) at_334 (by decide) rfl ?_
      refine g_goto C (pc' := 339) at_335 (by decide) rfl ?_
      exact g_zreturn C at_339 rfl rfl (Nat.le_of_ble_eq_true rfl) (Nat.le_of_ble_eq_true rfl) (rfl)
    · have hx' : ¬ (8192 : Int64) < (p2 &&& (2147483647 : Int64)) := by rw [Int64.zero_add] at hx; exact hx
      by_cases hy : (8192 : Int64) < (((0 : Int64) + (p2 &&& (2147483647 : Int64))) + (p3 &&& (2147483647 : Int64)))
      · have hy' : (8192 : Int64) < ((p2 &&& (2147483647 : Int64)) + (p3 &&& (2147483647 : Int64))) := by rw [Int64.zero_add] at hy; exact hy
        refine g_aload C (pc' := 81) at_79 rfl rfl rfl ?_
        refine g_lload C (pc' := 83) at_81 rfl rfl ?_
        refine g_virtual C (pc' := 86) (k' := 1) (n' := 4) (argsL := [(.long (p2 &&& (2147483647 : Int64)))]) (rest := []) (wd hw 10 rfl) (wd hw 11 rfl) (nfSel (wd hw 13 rfl)) (wd hw 13 rfl) (wd hw 12 rfl) (wd hw 2 rfl) (wd hw 14 rfl) (by decide) at_83 pd_1 rfl rfl rfl f211 (drops_0 l Z a0 hw n0 h207 f210 H b146 ge_b146 p1 (0 : Int64) (p2 &&& (2147483647 : Int64)) hx P206) (Nat.le_of_ble_eq_true rfl) (Nat.le_of_ble_eq_true rfl) (Nat.le_of_ble_eq_true rfl) (Nat.le_of_ble_eq_true rfl) rfl rfl rfl (fun v240 h239 q241 => ?_)
        obtain ⟨rfl, K237, P238⟩ := q241
        have f242 := f210.keep K237 (allS ge_b146 all0)
        have f243 := f211.keep K237
        show G w _ h239 1 4 86 #[.val (.int p0), .val (.long p1), .second, .val (.long p2), .second, .val (.long p3), .second, .val (.long p4), .second, .val (.ref b146), .val (.int (2 : Int32)), .val (.long (p2 &&& (2147483647 : Int64))), .second, .val (.long (p3 &&& (2147483647 : Int64))), .second, .val (.long (p4 &&& (2147483647 : Int64))), .second, .unset, .unset, .unset, .unset, .unset, .unset, .unset, .unset, .unset, .unset] [(.int (1 : Int32))]
        refine g_istore C (pc' := 88) (Ls' := #[.val (.int p0), .val (.long p1), .second, .val (.long p2), .second, .val (.long p3), .second, .val (.long p4), .second, .val (.ref b146), .val (.int (2 : Int32)), .val (.long (p2 &&& (2147483647 : Int64))), .second, .val (.long (p3 &&& (2147483647 : Int64))), .second, .val (.long (p4 &&& (2147483647 : Int64))), .second, .val (.int (1 : Int32)), .unset, .unset, .unset, .unset, .unset, .unset, .unset, .unset, .unset]) at_86 rfl rfl rfl ?_
        refine g_aload C (pc' := 90) at_88 rfl rfl rfl ?_
        refine g_virtual C (pc' := 93) (k' := 1) (n' := 4) (argsL := []) (rest := []) (wd hw 17 rfl) (wd hw 18 rfl) (nfSel (wd hw 20 rfl)) (wd hw 20 rfl) (wd hw 19 rfl) (wd hw 2 rfl) (wd hw 21 rfl) (by decide) at_90 pd_2 rfl rfl rfl f243 (givenUp_01 l Z a0 hw n0 h239 f242 H b146 ge_b146 p1 ((0 : Int64) + (p2 &&& (2147483647 : Int64))) P238) (Nat.le_of_ble_eq_true rfl) (Nat.le_of_ble_eq_true rfl) (Nat.le_of_ble_eq_true rfl) (Nat.le_of_ble_eq_true rfl) rfl rfl rfl (fun v245 h244 q246 => ?_)
        obtain ⟨rfl, eh244⟩ := q246
        subst h244
        show G w _ h239 1 4 93 #[.val (.int p0), .val (.long p1), .second, .val (.long p2), .second, .val (.long p3), .second, .val (.long p4), .second, .val (.ref b146), .val (.int (2 : Int32)), .val (.long (p2 &&& (2147483647 : Int64))), .second, .val (.long (p3 &&& (2147483647 : Int64))), .second, .val (.long (p4 &&& (2147483647 : Int64))), .second, .val (.int (1 : Int32)), .unset, .unset, .unset, .unset, .unset, .unset, .unset, .unset, .unset] [(.int (0 : Int32))]
        refine g_istore C (pc' := 95) (Ls' := #[.val (.int p0), .val (.long p1), .second, .val (.long p2), .second, .val (.long p3), .second, .val (.long p4), .second, .val (.ref b146), .val (.int (2 : Int32)), .val (.long (p2 &&& (2147483647 : Int64))), .second, .val (.long (p3 &&& (2147483647 : Int64))), .second, .val (.long (p4 &&& (2147483647 : Int64))), .second, .val (.int (1 : Int32)), .val (.int (0 : Int32)), .unset, .unset, .unset, .unset, .unset, .unset, .unset, .unset]) at_93 rfl rfl rfl ?_
        refine g_aload C (pc' := 97) at_95 rfl rfl rfl ?_
        refine g_lload C (pc' := 99) at_97 rfl rfl ?_
        refine g_virtual C (pc' := 102) (k' := 1) (n' := 4) (argsL := [(.long (p3 &&& (2147483647 : Int64)))]) (rest := []) (wd hw 10 rfl) (wd hw 11 rfl) (nfSel (wd hw 13 rfl)) (wd hw 13 rfl) (wd hw 12 rfl) (wd hw 2 rfl) (wd hw 14 rfl) (by decide) at_99 pd_1 rfl rfl rfl f243 (drops_1 l Z a0 hw n0 h239 f242 H b146 ge_b146 p1 ((0 : Int64) + (p2 &&& (2147483647 : Int64))) (p3 &&& (2147483647 : Int64)) hy P238) (Nat.le_of_ble_eq_true rfl) (Nat.le_of_ble_eq_true rfl) (Nat.le_of_ble_eq_true rfl) (Nat.le_of_ble_eq_true rfl) rfl rfl rfl (fun v250 h249 q251 => ?_)
        obtain ⟨rfl, K247, P248⟩ := q251
        have f252 := f242.keep K247 (allS ge_b146 all0)
        have f253 := f243.keep K247
        show G w _ h249 1 4 102 #[.val (.int p0), .val (.long p1), .second, .val (.long p2), .second, .val (.long p3), .second, .val (.long p4), .second, .val (.ref b146), .val (.int (2 : Int32)), .val (.long (p2 &&& (2147483647 : Int64))), .second, .val (.long (p3 &&& (2147483647 : Int64))), .second, .val (.long (p4 &&& (2147483647 : Int64))), .second, .val (.int (1 : Int32)), .val (.int (0 : Int32)), .unset, .unset, .unset, .unset, .unset, .unset, .unset, .unset] [(.int (1 : Int32))]
        refine g_istore C (pc' := 104) (Ls' := #[.val (.int p0), .val (.long p1), .second, .val (.long p2), .second, .val (.long p3), .second, .val (.long p4), .second, .val (.ref b146), .val (.int (2 : Int32)), .val (.long (p2 &&& (2147483647 : Int64))), .second, .val (.long (p3 &&& (2147483647 : Int64))), .second, .val (.long (p4 &&& (2147483647 : Int64))), .second, .val (.int (1 : Int32)), .val (.int (0 : Int32)), .val (.int (1 : Int32)), .unset, .unset, .unset, .unset, .unset, .unset, .unset]) at_102 rfl rfl rfl ?_
        refine g_aload C (pc' := 106) at_104 rfl rfl rfl ?_
        refine g_virtual C (pc' := 109) (k' := 1) (n' := 4) (argsL := []) (rest := []) (wd hw 17 rfl) (wd hw 18 rfl) (nfSel (wd hw 20 rfl)) (wd hw 20 rfl) (wd hw 19 rfl) (wd hw 2 rfl) (wd hw 21 rfl) (by decide) at_106 pd_2 rfl rfl rfl f253 (givenUp_11 l Z a0 hw n0 h249 f252 H b146 ge_b146 p1 (((0 : Int64) + (p2 &&& (2147483647 : Int64))) + (p3 &&& (2147483647 : Int64))) P248) (Nat.le_of_ble_eq_true rfl) (Nat.le_of_ble_eq_true rfl) (Nat.le_of_ble_eq_true rfl) (Nat.le_of_ble_eq_true rfl) rfl rfl rfl (fun v255 h254 q256 => ?_)
        obtain ⟨rfl, eh254⟩ := q256
        subst h254
        show G w _ h249 1 4 109 #[.val (.int p0), .val (.long p1), .second, .val (.long p2), .second, .val (.long p3), .second, .val (.long p4), .second, .val (.ref b146), .val (.int (2 : Int32)), .val (.long (p2 &&& (2147483647 : Int64))), .second, .val (.long (p3 &&& (2147483647 : Int64))), .second, .val (.long (p4 &&& (2147483647 : Int64))), .second, .val (.int (1 : Int32)), .val (.int (0 : Int32)), .val (.int (1 : Int32)), .unset, .unset, .unset, .unset, .unset, .unset, .unset] [(.int (1 : Int32))]
        refine g_istore C (pc' := 111) (Ls' := #[.val (.int p0), .val (.long p1), .second, .val (.long p2), .second, .val (.long p3), .second, .val (.long p4), .second, .val (.ref b146), .val (.int (2 : Int32)), .val (.long (p2 &&& (2147483647 : Int64))), .second, .val (.long (p3 &&& (2147483647 : Int64))), .second, .val (.long (p4 &&& (2147483647 : Int64))), .second, .val (.int (1 : Int32)), .val (.int (0 : Int32)), .val (.int (1 : Int32)), .val (.int (1 : Int32)), .unset, .unset, .unset, .unset, .unset, .unset]) at_109 rfl rfl rfl ?_
        refine g_aload C (pc' := 113) at_111 rfl rfl rfl ?_
        refine g_lload C (pc' := 115) at_113 rfl rfl ?_
        refine g_virtual C (pc' := 118) (k' := 1) (n' := 4) (argsL := [(.long (p4 &&& (2147483647 : Int64)))]) (rest := []) (wd hw 10 rfl) (wd hw 11 rfl) (nfSel (wd hw 13 rfl)) (wd hw 13 rfl) (wd hw 12 rfl) (wd hw 2 rfl) (wd hw 14 rfl) (by decide) at_115 pd_1 rfl rfl rfl f253 (drops_11 l Z a0 hw n0 h249 f252 H b146 ge_b146 p1 (((0 : Int64) + (p2 &&& (2147483647 : Int64))) + (p3 &&& (2147483647 : Int64))) (p4 &&& (2147483647 : Int64)) P248) (Nat.le_of_ble_eq_true rfl) (Nat.le_of_ble_eq_true rfl) (Nat.le_of_ble_eq_true rfl) (Nat.le_of_ble_eq_true rfl) rfl rfl rfl (fun v258 h257 q259 => ?_)
        obtain ⟨rfl, eh257⟩ := q259
        subst h257
        show G w _ h249 1 4 118 #[.val (.int p0), .val (.long p1), .second, .val (.long p2), .second, .val (.long p3), .second, .val (.long p4), .second, .val (.ref b146), .val (.int (2 : Int32)), .val (.long (p2 &&& (2147483647 : Int64))), .second, .val (.long (p3 &&& (2147483647 : Int64))), .second, .val (.long (p4 &&& (2147483647 : Int64))), .second, .val (.int (1 : Int32)), .val (.int (0 : Int32)), .val (.int (1 : Int32)), .val (.int (1 : Int32)), .unset, .unset, .unset, .unset, .unset, .unset] [(.int (0 : Int32))]
        refine g_istore C (pc' := 120) (Ls' := #[.val (.int p0), .val (.long p1), .second, .val (.long p2), .second, .val (.long p3), .second, .val (.long p4), .second, .val (.ref b146), .val (.int (2 : Int32)), .val (.long (p2 &&& (2147483647 : Int64))), .second, .val (.long (p3 &&& (2147483647 : Int64))), .second, .val (.long (p4 &&& (2147483647 : Int64))), .second, .val (.int (1 : Int32)), .val (.int (0 : Int32)), .val (.int (1 : Int32)), .val (.int (1 : Int32)), .val (.int (0 : Int32)), .unset, .unset, .unset, .unset, .unset]) at_118 rfl rfl rfl ?_
        refine g_aload C (pc' := 122) at_120 rfl rfl rfl ?_
        refine g_virtual C (pc' := 125) (k' := 1) (n' := 4) (argsL := []) (rest := []) (wd hw 17 rfl) (wd hw 18 rfl) (nfSel (wd hw 20 rfl)) (wd hw 20 rfl) (wd hw 19 rfl) (wd hw 2 rfl) (wd hw 21 rfl) (by decide) at_122 pd_2 rfl rfl rfl f253 (givenUp_11 l Z a0 hw n0 h249 f252 H b146 ge_b146 p1 (((0 : Int64) + (p2 &&& (2147483647 : Int64))) + (p3 &&& (2147483647 : Int64))) P248) (Nat.le_of_ble_eq_true rfl) (Nat.le_of_ble_eq_true rfl) (Nat.le_of_ble_eq_true rfl) (Nat.le_of_ble_eq_true rfl) rfl rfl rfl (fun v261 h260 q262 => ?_)
        obtain ⟨rfl, eh260⟩ := q262
        subst h260
        show G w _ h249 1 4 125 #[.val (.int p0), .val (.long p1), .second, .val (.long p2), .second, .val (.long p3), .second, .val (.long p4), .second, .val (.ref b146), .val (.int (2 : Int32)), .val (.long (p2 &&& (2147483647 : Int64))), .second, .val (.long (p3 &&& (2147483647 : Int64))), .second, .val (.long (p4 &&& (2147483647 : Int64))), .second, .val (.int (1 : Int32)), .val (.int (0 : Int32)), .val (.int (1 : Int32)), .val (.int (1 : Int32)), .val (.int (0 : Int32)), .unset, .unset, .unset, .unset, .unset] [(.int (1 : Int32))]
        refine g_istore C (pc' := 127) (Ls' := #[.val (.int p0), .val (.long p1), .second, .val (.long p2), .second, .val (.long p3), .second, .val (.long p4), .second, .val (.ref b146), .val (.int (2 : Int32)), .val (.long (p2 &&& (2147483647 : Int64))), .second, .val (.long (p3 &&& (2147483647 : Int64))), .second, .val (.long (p4 &&& (2147483647 : Int64))), .second, .val (.int (1 : Int32)), .val (.int (0 : Int32)), .val (.int (1 : Int32)), .val (.int (1 : Int32)), .val (.int (0 : Int32)), .val (.int (1 : Int32)), .unset, .unset, .unset, .unset]) at_125 rfl rfl rfl ?_
        refine g_aload C (pc' := 129) at_127 rfl rfl rfl ?_
        refine g_virtual C (pc' := 132) (k' := 1) (n' := 4) (argsL := []) (rest := []) (wd hw 24 rfl) (wd hw 25 rfl) (nfSel (wd hw 27 rfl)) (wd hw 27 rfl) (wd hw 26 rfl) (wd hw 2 rfl) (wd hw 28 rfl) (by decide) at_129 pd_2 rfl rfl rfl f253 (isLetGo_11 l Z a0 hw n0 h249 f252 H b146 ge_b146 p1 (((0 : Int64) + (p2 &&& (2147483647 : Int64))) + (p3 &&& (2147483647 : Int64))) P248) (Nat.le_of_ble_eq_true rfl) (Nat.le_of_ble_eq_true rfl) (Nat.le_of_ble_eq_true rfl) (Nat.le_of_ble_eq_true rfl) rfl rfl rfl (fun v264 h263 q265 => ?_)
        obtain ⟨rfl, eh263⟩ := q265
        subst h263
        show G w _ h249 1 4 132 #[.val (.int p0), .val (.long p1), .second, .val (.long p2), .second, .val (.long p3), .second, .val (.long p4), .second, .val (.ref b146), .val (.int (2 : Int32)), .val (.long (p2 &&& (2147483647 : Int64))), .second, .val (.long (p3 &&& (2147483647 : Int64))), .second, .val (.long (p4 &&& (2147483647 : Int64))), .second, .val (.int (1 : Int32)), .val (.int (0 : Int32)), .val (.int (1 : Int32)), .val (.int (1 : Int32)), .val (.int (0 : Int32)), .val (.int (1 : Int32)), .unset, .unset, .unset, .unset] [(.int (1 : Int32))]
        refine g_istore C (pc' := 134) (Ls' := #[.val (.int p0), .val (.long p1), .second, .val (.long p2), .second, .val (.long p3), .second, .val (.long p4), .second, .val (.ref b146), .val (.int (2 : Int32)), .val (.long (p2 &&& (2147483647 : Int64))), .second, .val (.long (p3 &&& (2147483647 : Int64))), .second, .val (.long (p4 &&& (2147483647 : Int64))), .second, .val (.int (1 : Int32)), .val (.int (0 : Int32)), .val (.int (1 : Int32)), .val (.int (1 : Int32)), .val (.int (0 : Int32)), .val (.int (1 : Int32)), .val (.int (1 : Int32)), .unset, .unset, .unset]) at_132 rfl rfl rfl ?_
        refine g_iload C (pc' := 136) at_134 rfl rfl ?_
        refine g_iconst C (pc' := 137) (v := (2 : Int32)) at_136 (by decide) rfl ?_
        refine g_icY C (pc' := 206) at_137 rfl (by decide) (by decide) rfl ?_
        refine g_lload C (pc' := 208) at_206 rfl rfl ?_
        refine g_ldc2Long C (pc' := 211) (wd hw 44 rfl) at_208 rfl ?_
        refine g_lcmp C (pc' := 212) at_211 rfl rfl ?_
        refine g_ifY C (pc' := 219) at_212 rfl (says_t (cd := .le) (fun q => hx' ((lw_gt _ _).mp q))) (by decide) rfl ?_
        refine g_iconst C (pc' := 220) (v := (0 : Int32)) at_219 (by decide) rfl ?_
        refine g_istore C (pc' := 222) (Ls' := #[.val (.int p0), .val (.long p1), .second, .val (.long p2), .second, .val (.long p3), .second, .val (.long p4), .second, .val (.ref b146), .val (.int (2 : Int32)), .val (.long (p2 &&& (2147483647 : Int64))), .second, .val (.long (p3 &&& (2147483647 : Int64))), .second, .val (.long (p4 &&& (2147483647 : Int64))), .second, .val (.int (1 : Int32)), .val (.int (0 : Int32)), .val (.int (1 : Int32)), .val (.int (1 : Int32)), .val (.int (0 : Int32)), .val (.int (1 : Int32)), .val (.int (1 : Int32)), .val (.int (0 : Int32)), .unset, .unset]) at_220 rfl rfl rfl ?_
        refine g_iload C (pc' := 224) at_222 rfl rfl ?_
        refine g_ifN C (pc' := 227) at_224 rfl (by decide) rfl ?_
        refine g_lload C (pc' := 229) at_227 rfl rfl ?_
        refine g_lload C (pc' := 231) at_229 rfl rfl ?_
        refine g_ladd C (pc' := 232) at_231 rfl rfl ?_
        refine g_ldc2Long C (pc' := 235) (wd hw 44 rfl) at_232 rfl ?_
        refine g_lcmp C (pc' := 236) at_235 rfl rfl ?_
        refine g_ifN C (pc' := 239) at_236 rfl (says_f (cd := .le) (fun q => q ((lw_gt _ _).mpr hy'))) rfl ?_
        refine g_iconst C (pc' := 240) (v := (1 : Int32)) at_239 (by decide) rfl ?_
        refine g_goto C (pc' := 244) at_240 (by decide) rfl ?_
        refine g_istore C (pc' := 246) (Ls' := #[.val (.int p0), .val (.long p1), .second, .val (.long p2), .second, .val (.long p3), .second, .val (.long p4), .second, .val (.ref b146), .val (.int (2 : Int32)), .val (.long (p2 &&& (2147483647 : Int64))), .second, .val (.long (p3 &&& (2147483647 : Int64))), .second, .val (.long (p4 &&& (2147483647 : Int64))), .second, .val (.int (1 : Int32)), .val (.int (0 : Int32)), .val (.int (1 : Int32)), .val (.int (1 : Int32)), .val (.int (0 : Int32)), .val (.int (1 : Int32)), .val (.int (1 : Int32)), .val (.int (0 : Int32)), .val (.int (1 : Int32)), .unset]) at_244 rfl rfl rfl ?_
        refine g_iload C (pc' := 248) at_246 rfl rfl ?_
        refine g_ifY C (pc' := 266) at_248 rfl (by decide) (by decide) rfl ?_
        refine g_iconst C (pc' := 267) (v := (1 : Int32)) at_266 (by decide) rfl ?_
        refine g_goto C (pc' := 271) at_267 (by decide) rfl ?_
        refine g_istore C (pc' := 273) (Ls' := #[.val (.int p0), .val (.long p1), .second, .val (.long p2), .second, .val (.long p3), .second, .val (.long p4), .second, .val (.ref b146), .val (.int (2 : Int32)), .val (.long (p2 &&& (2147483647 : Int64))), .second, .val (.long (p3 &&& (2147483647 : Int64))), .second, .val (.long (p4 &&& (2147483647 : Int64))), .second, .val (.int (1 : Int32)), .val (.int (0 : Int32)), .val (.int (1 : Int32)), .val (.int (1 : Int32)), .val (.int (0 : Int32)), .val (.int (1 : Int32)), .val (.int (1 : Int32)), .val (.int (0 : Int32)), .val (.int (1 : Int32)), .val (.int (1 : Int32))]) at_271 rfl rfl rfl ?_
        refine g_iload C (pc' := 275) at_273 rfl rfl ?_
        refine g_ifN C (pc' := 278) at_275 rfl (by decide) rfl ?_
        refine g_iload C (pc' := 280) at_278 rfl rfl ?_
        refine g_iload C (pc' := 282) at_280 rfl rfl ?_
        refine g_icN C (pc' := 285) at_282 rfl (by decide) rfl ?_
        refine g_iload C (pc' := 287) at_285 rfl rfl ?_
        refine g_iload C (pc' := 289) at_287 rfl rfl ?_
        refine g_ifN C (pc' := 292) at_289 rfl (by decide) rfl ?_
        refine g_iconst C (pc' := 293) (v := (1 : Int32)) at_292 (by decide) rfl ?_
        refine g_goto C (pc' := 297) at_293 (by decide) rfl ?_
        refine g_icN C (pc' := 300) at_297 rfl (by decide) rfl ?_
        refine g_iload C (pc' := 302) at_300 rfl rfl ?_
        refine g_iload C (pc' := 304) at_302 rfl rfl ?_
        refine g_icN C (pc' := 307) at_304 rfl (by decide) rfl ?_
        refine g_iload C (pc' := 309) at_307 rfl rfl ?_
        refine g_iload C (pc' := 311) at_309 rfl rfl ?_
        refine g_ifY C (pc' := 318) at_311 rfl (by decide) (by decide) rfl ?_
        refine g_iconst C (pc' := 319) (v := (0 : Int32)) at_318 (by decide) rfl ?_
        refine g_icN C (pc' := 322) at_319 rfl (by decide) rfl ?_
        refine g_iload C (pc' := 324) at_322 rfl rfl ?_
        refine g_iload C (pc' := 326) at_324 rfl rfl ?_
        refine g_icN C (pc' := 329) at_326 rfl (by decide) rfl ?_
        refine g_iload C (pc' := 331) at_329 rfl rfl ?_
        refine g_ifN C (pc' := 334) at_331 rfl (by decide) rfl ?_
        refine g_iconst C (pc' := 335) (v := (1 : Int32)) at_334 (by decide) rfl ?_
        refine g_goto C (pc' := 339) at_335 (by decide) rfl ?_
        exact g_zreturn C at_339 rfl rfl (Nat.le_of_ble_eq_true rfl) (Nat.le_of_ble_eq_true rfl) (rfl)
      · have hy' : ¬ (8192 : Int64) < ((p2 &&& (2147483647 : Int64)) + (p3 &&& (2147483647 : Int64))) := by rw [Int64.zero_add] at hy; exact hy
        by_cases hz : (8192 : Int64) < ((((0 : Int64) + (p2 &&& (2147483647 : Int64))) + (p3 &&& (2147483647 : Int64))) + (p4 &&& (2147483647 : Int64)))
        · have hz' : (8192 : Int64) < (((p2 &&& (2147483647 : Int64)) + (p3 &&& (2147483647 : Int64))) + (p4 &&& (2147483647 : Int64))) := by rw [Int64.zero_add] at hz; exact hz
          refine g_aload C (pc' := 81) at_79 rfl rfl rfl ?_
          refine g_lload C (pc' := 83) at_81 rfl rfl ?_
          refine g_virtual C (pc' := 86) (k' := 1) (n' := 4) (argsL := [(.long (p2 &&& (2147483647 : Int64)))]) (rest := []) (wd hw 10 rfl) (wd hw 11 rfl) (nfSel (wd hw 13 rfl)) (wd hw 13 rfl) (wd hw 12 rfl) (wd hw 2 rfl) (wd hw 14 rfl) (by decide) at_83 pd_1 rfl rfl rfl f211 (drops_0 l Z a0 hw n0 h207 f210 H b146 ge_b146 p1 (0 : Int64) (p2 &&& (2147483647 : Int64)) hx P206) (Nat.le_of_ble_eq_true rfl) (Nat.le_of_ble_eq_true rfl) (Nat.le_of_ble_eq_true rfl) (Nat.le_of_ble_eq_true rfl) rfl rfl rfl (fun v269 h268 q270 => ?_)
          obtain ⟨rfl, K266, P267⟩ := q270
          have f271 := f210.keep K266 (allS ge_b146 all0)
          have f272 := f211.keep K266
          show G w _ h268 1 4 86 #[.val (.int p0), .val (.long p1), .second, .val (.long p2), .second, .val (.long p3), .second, .val (.long p4), .second, .val (.ref b146), .val (.int (2 : Int32)), .val (.long (p2 &&& (2147483647 : Int64))), .second, .val (.long (p3 &&& (2147483647 : Int64))), .second, .val (.long (p4 &&& (2147483647 : Int64))), .second, .unset, .unset, .unset, .unset, .unset, .unset, .unset, .unset, .unset, .unset] [(.int (1 : Int32))]
          refine g_istore C (pc' := 88) (Ls' := #[.val (.int p0), .val (.long p1), .second, .val (.long p2), .second, .val (.long p3), .second, .val (.long p4), .second, .val (.ref b146), .val (.int (2 : Int32)), .val (.long (p2 &&& (2147483647 : Int64))), .second, .val (.long (p3 &&& (2147483647 : Int64))), .second, .val (.long (p4 &&& (2147483647 : Int64))), .second, .val (.int (1 : Int32)), .unset, .unset, .unset, .unset, .unset, .unset, .unset, .unset, .unset]) at_86 rfl rfl rfl ?_
          refine g_aload C (pc' := 90) at_88 rfl rfl rfl ?_
          refine g_virtual C (pc' := 93) (k' := 1) (n' := 4) (argsL := []) (rest := []) (wd hw 17 rfl) (wd hw 18 rfl) (nfSel (wd hw 20 rfl)) (wd hw 20 rfl) (wd hw 19 rfl) (wd hw 2 rfl) (wd hw 21 rfl) (by decide) at_90 pd_2 rfl rfl rfl f272 (givenUp_01 l Z a0 hw n0 h268 f271 H b146 ge_b146 p1 ((0 : Int64) + (p2 &&& (2147483647 : Int64))) P267) (Nat.le_of_ble_eq_true rfl) (Nat.le_of_ble_eq_true rfl) (Nat.le_of_ble_eq_true rfl) (Nat.le_of_ble_eq_true rfl) rfl rfl rfl (fun v274 h273 q275 => ?_)
          obtain ⟨rfl, eh273⟩ := q275
          subst h273
          show G w _ h268 1 4 93 #[.val (.int p0), .val (.long p1), .second, .val (.long p2), .second, .val (.long p3), .second, .val (.long p4), .second, .val (.ref b146), .val (.int (2 : Int32)), .val (.long (p2 &&& (2147483647 : Int64))), .second, .val (.long (p3 &&& (2147483647 : Int64))), .second, .val (.long (p4 &&& (2147483647 : Int64))), .second, .val (.int (1 : Int32)), .unset, .unset, .unset, .unset, .unset, .unset, .unset, .unset, .unset] [(.int (0 : Int32))]
          refine g_istore C (pc' := 95) (Ls' := #[.val (.int p0), .val (.long p1), .second, .val (.long p2), .second, .val (.long p3), .second, .val (.long p4), .second, .val (.ref b146), .val (.int (2 : Int32)), .val (.long (p2 &&& (2147483647 : Int64))), .second, .val (.long (p3 &&& (2147483647 : Int64))), .second, .val (.long (p4 &&& (2147483647 : Int64))), .second, .val (.int (1 : Int32)), .val (.int (0 : Int32)), .unset, .unset, .unset, .unset, .unset, .unset, .unset, .unset]) at_93 rfl rfl rfl ?_
          refine g_aload C (pc' := 97) at_95 rfl rfl rfl ?_
          refine g_lload C (pc' := 99) at_97 rfl rfl ?_
          refine g_virtual C (pc' := 102) (k' := 1) (n' := 4) (argsL := [(.long (p3 &&& (2147483647 : Int64)))]) (rest := []) (wd hw 10 rfl) (wd hw 11 rfl) (nfSel (wd hw 13 rfl)) (wd hw 13 rfl) (wd hw 12 rfl) (wd hw 2 rfl) (wd hw 14 rfl) (by decide) at_99 pd_1 rfl rfl rfl f272 (drops_0 l Z a0 hw n0 h268 f271 H b146 ge_b146 p1 ((0 : Int64) + (p2 &&& (2147483647 : Int64))) (p3 &&& (2147483647 : Int64)) hy P267) (Nat.le_of_ble_eq_true rfl) (Nat.le_of_ble_eq_true rfl) (Nat.le_of_ble_eq_true rfl) (Nat.le_of_ble_eq_true rfl) rfl rfl rfl (fun v279 h278 q280 => ?_)
          obtain ⟨rfl, K276, P277⟩ := q280
          have f281 := f271.keep K276 (allS ge_b146 all0)
          have f282 := f272.keep K276
          show G w _ h278 1 4 102 #[.val (.int p0), .val (.long p1), .second, .val (.long p2), .second, .val (.long p3), .second, .val (.long p4), .second, .val (.ref b146), .val (.int (2 : Int32)), .val (.long (p2 &&& (2147483647 : Int64))), .second, .val (.long (p3 &&& (2147483647 : Int64))), .second, .val (.long (p4 &&& (2147483647 : Int64))), .second, .val (.int (1 : Int32)), .val (.int (0 : Int32)), .unset, .unset, .unset, .unset, .unset, .unset, .unset, .unset] [(.int (1 : Int32))]
          refine g_istore C (pc' := 104) (Ls' := #[.val (.int p0), .val (.long p1), .second, .val (.long p2), .second, .val (.long p3), .second, .val (.long p4), .second, .val (.ref b146), .val (.int (2 : Int32)), .val (.long (p2 &&& (2147483647 : Int64))), .second, .val (.long (p3 &&& (2147483647 : Int64))), .second, .val (.long (p4 &&& (2147483647 : Int64))), .second, .val (.int (1 : Int32)), .val (.int (0 : Int32)), .val (.int (1 : Int32)), .unset, .unset, .unset, .unset, .unset, .unset, .unset]) at_102 rfl rfl rfl ?_
          refine g_aload C (pc' := 106) at_104 rfl rfl rfl ?_
          refine g_virtual C (pc' := 109) (k' := 1) (n' := 4) (argsL := []) (rest := []) (wd hw 17 rfl) (wd hw 18 rfl) (nfSel (wd hw 20 rfl)) (wd hw 20 rfl) (wd hw 19 rfl) (wd hw 2 rfl) (wd hw 21 rfl) (by decide) at_106 pd_2 rfl rfl rfl f282 (givenUp_01 l Z a0 hw n0 h278 f281 H b146 ge_b146 p1 (((0 : Int64) + (p2 &&& (2147483647 : Int64))) + (p3 &&& (2147483647 : Int64))) P277) (Nat.le_of_ble_eq_true rfl) (Nat.le_of_ble_eq_true rfl) (Nat.le_of_ble_eq_true rfl) (Nat.le_of_ble_eq_true rfl) rfl rfl rfl (fun v284 h283 q285 => ?_)
          obtain ⟨rfl, eh283⟩ := q285
          subst h283
          show G w _ h278 1 4 109 #[.val (.int p0), .val (.long p1), .second, .val (.long p2), .second, .val (.long p3), .second, .val (.long p4), .second, .val (.ref b146), .val (.int (2 : Int32)), .val (.long (p2 &&& (2147483647 : Int64))), .second, .val (.long (p3 &&& (2147483647 : Int64))), .second, .val (.long (p4 &&& (2147483647 : Int64))), .second, .val (.int (1 : Int32)), .val (.int (0 : Int32)), .val (.int (1 : Int32)), .unset, .unset, .unset, .unset, .unset, .unset, .unset] [(.int (0 : Int32))]
          refine g_istore C (pc' := 111) (Ls' := #[.val (.int p0), .val (.long p1), .second, .val (.long p2), .second, .val (.long p3), .second, .val (.long p4), .second, .val (.ref b146), .val (.int (2 : Int32)), .val (.long (p2 &&& (2147483647 : Int64))), .second, .val (.long (p3 &&& (2147483647 : Int64))), .second, .val (.long (p4 &&& (2147483647 : Int64))), .second, .val (.int (1 : Int32)), .val (.int (0 : Int32)), .val (.int (1 : Int32)), .val (.int (0 : Int32)), .unset, .unset, .unset, .unset, .unset, .unset]) at_109 rfl rfl rfl ?_
          refine g_aload C (pc' := 113) at_111 rfl rfl rfl ?_
          refine g_lload C (pc' := 115) at_113 rfl rfl ?_
          refine g_virtual C (pc' := 118) (k' := 1) (n' := 4) (argsL := [(.long (p4 &&& (2147483647 : Int64)))]) (rest := []) (wd hw 10 rfl) (wd hw 11 rfl) (nfSel (wd hw 13 rfl)) (wd hw 13 rfl) (wd hw 12 rfl) (wd hw 2 rfl) (wd hw 14 rfl) (by decide) at_115 pd_1 rfl rfl rfl f282 (drops_1 l Z a0 hw n0 h278 f281 H b146 ge_b146 p1 (((0 : Int64) + (p2 &&& (2147483647 : Int64))) + (p3 &&& (2147483647 : Int64))) (p4 &&& (2147483647 : Int64)) hz P277) (Nat.le_of_ble_eq_true rfl) (Nat.le_of_ble_eq_true rfl) (Nat.le_of_ble_eq_true rfl) (Nat.le_of_ble_eq_true rfl) rfl rfl rfl (fun v289 h288 q290 => ?_)
          obtain ⟨rfl, K286, P287⟩ := q290
          have f291 := f281.keep K286 (allS ge_b146 all0)
          have f292 := f282.keep K286
          show G w _ h288 1 4 118 #[.val (.int p0), .val (.long p1), .second, .val (.long p2), .second, .val (.long p3), .second, .val (.long p4), .second, .val (.ref b146), .val (.int (2 : Int32)), .val (.long (p2 &&& (2147483647 : Int64))), .second, .val (.long (p3 &&& (2147483647 : Int64))), .second, .val (.long (p4 &&& (2147483647 : Int64))), .second, .val (.int (1 : Int32)), .val (.int (0 : Int32)), .val (.int (1 : Int32)), .val (.int (0 : Int32)), .unset, .unset, .unset, .unset, .unset, .unset] [(.int (1 : Int32))]
          refine g_istore C (pc' := 120) (Ls' := #[.val (.int p0), .val (.long p1), .second, .val (.long p2), .second, .val (.long p3), .second, .val (.long p4), .second, .val (.ref b146), .val (.int (2 : Int32)), .val (.long (p2 &&& (2147483647 : Int64))), .second, .val (.long (p3 &&& (2147483647 : Int64))), .second, .val (.long (p4 &&& (2147483647 : Int64))), .second, .val (.int (1 : Int32)), .val (.int (0 : Int32)), .val (.int (1 : Int32)), .val (.int (0 : Int32)), .val (.int (1 : Int32)), .unset, .unset, .unset, .unset, .unset]) at_118 rfl rfl rfl ?_
          refine g_aload C (pc' := 122) at_120 rfl rfl rfl ?_
          refine g_virtual C (pc' := 125) (k' := 1) (n' := 4) (argsL := []) (rest := []) (wd hw 17 rfl) (wd hw 18 rfl) (nfSel (wd hw 20 rfl)) (wd hw 20 rfl) (wd hw 19 rfl) (wd hw 2 rfl) (wd hw 21 rfl) (by decide) at_122 pd_2 rfl rfl rfl f292 (givenUp_11 l Z a0 hw n0 h288 f291 H b146 ge_b146 p1 ((((0 : Int64) + (p2 &&& (2147483647 : Int64))) + (p3 &&& (2147483647 : Int64))) + (p4 &&& (2147483647 : Int64))) P287) (Nat.le_of_ble_eq_true rfl) (Nat.le_of_ble_eq_true rfl) (Nat.le_of_ble_eq_true rfl) (Nat.le_of_ble_eq_true rfl) rfl rfl rfl (fun v294 h293 q295 => ?_)
          obtain ⟨rfl, eh293⟩ := q295
          subst h293
          show G w _ h288 1 4 125 #[.val (.int p0), .val (.long p1), .second, .val (.long p2), .second, .val (.long p3), .second, .val (.long p4), .second, .val (.ref b146), .val (.int (2 : Int32)), .val (.long (p2 &&& (2147483647 : Int64))), .second, .val (.long (p3 &&& (2147483647 : Int64))), .second, .val (.long (p4 &&& (2147483647 : Int64))), .second, .val (.int (1 : Int32)), .val (.int (0 : Int32)), .val (.int (1 : Int32)), .val (.int (0 : Int32)), .val (.int (1 : Int32)), .unset, .unset, .unset, .unset, .unset] [(.int (1 : Int32))]
          refine g_istore C (pc' := 127) (Ls' := #[.val (.int p0), .val (.long p1), .second, .val (.long p2), .second, .val (.long p3), .second, .val (.long p4), .second, .val (.ref b146), .val (.int (2 : Int32)), .val (.long (p2 &&& (2147483647 : Int64))), .second, .val (.long (p3 &&& (2147483647 : Int64))), .second, .val (.long (p4 &&& (2147483647 : Int64))), .second, .val (.int (1 : Int32)), .val (.int (0 : Int32)), .val (.int (1 : Int32)), .val (.int (0 : Int32)), .val (.int (1 : Int32)), .val (.int (1 : Int32)), .unset, .unset, .unset, .unset]) at_125 rfl rfl rfl ?_
          refine g_aload C (pc' := 129) at_127 rfl rfl rfl ?_
          refine g_virtual C (pc' := 132) (k' := 1) (n' := 4) (argsL := []) (rest := []) (wd hw 24 rfl) (wd hw 25 rfl) (nfSel (wd hw 27 rfl)) (wd hw 27 rfl) (wd hw 26 rfl) (wd hw 2 rfl) (wd hw 28 rfl) (by decide) at_129 pd_2 rfl rfl rfl f292 (isLetGo_11 l Z a0 hw n0 h288 f291 H b146 ge_b146 p1 ((((0 : Int64) + (p2 &&& (2147483647 : Int64))) + (p3 &&& (2147483647 : Int64))) + (p4 &&& (2147483647 : Int64))) P287) (Nat.le_of_ble_eq_true rfl) (Nat.le_of_ble_eq_true rfl) (Nat.le_of_ble_eq_true rfl) (Nat.le_of_ble_eq_true rfl) rfl rfl rfl (fun v297 h296 q298 => ?_)
          obtain ⟨rfl, eh296⟩ := q298
          subst h296
          show G w _ h288 1 4 132 #[.val (.int p0), .val (.long p1), .second, .val (.long p2), .second, .val (.long p3), .second, .val (.long p4), .second, .val (.ref b146), .val (.int (2 : Int32)), .val (.long (p2 &&& (2147483647 : Int64))), .second, .val (.long (p3 &&& (2147483647 : Int64))), .second, .val (.long (p4 &&& (2147483647 : Int64))), .second, .val (.int (1 : Int32)), .val (.int (0 : Int32)), .val (.int (1 : Int32)), .val (.int (0 : Int32)), .val (.int (1 : Int32)), .val (.int (1 : Int32)), .unset, .unset, .unset, .unset] [(.int (1 : Int32))]
          refine g_istore C (pc' := 134) (Ls' := #[.val (.int p0), .val (.long p1), .second, .val (.long p2), .second, .val (.long p3), .second, .val (.long p4), .second, .val (.ref b146), .val (.int (2 : Int32)), .val (.long (p2 &&& (2147483647 : Int64))), .second, .val (.long (p3 &&& (2147483647 : Int64))), .second, .val (.long (p4 &&& (2147483647 : Int64))), .second, .val (.int (1 : Int32)), .val (.int (0 : Int32)), .val (.int (1 : Int32)), .val (.int (0 : Int32)), .val (.int (1 : Int32)), .val (.int (1 : Int32)), .val (.int (1 : Int32)), .unset, .unset, .unset]) at_132 rfl rfl rfl ?_
          refine g_iload C (pc' := 136) at_134 rfl rfl ?_
          refine g_iconst C (pc' := 137) (v := (2 : Int32)) at_136 (by decide) rfl ?_
          refine g_icY C (pc' := 206) at_137 rfl (by decide) (by decide) rfl ?_
          refine g_lload C (pc' := 208) at_206 rfl rfl ?_
          refine g_ldc2Long C (pc' := 211) (wd hw 44 rfl) at_208 rfl ?_
          refine g_lcmp C (pc' := 212) at_211 rfl rfl ?_
          refine g_ifY C (pc' := 219) at_212 rfl (says_t (cd := .le) (fun q => hx' ((lw_gt _ _).mp q))) (by decide) rfl ?_
          refine g_iconst C (pc' := 220) (v := (0 : Int32)) at_219 (by decide) rfl ?_
          refine g_istore C (pc' := 222) (Ls' := #[.val (.int p0), .val (.long p1), .second, .val (.long p2), .second, .val (.long p3), .second, .val (.long p4), .second, .val (.ref b146), .val (.int (2 : Int32)), .val (.long (p2 &&& (2147483647 : Int64))), .second, .val (.long (p3 &&& (2147483647 : Int64))), .second, .val (.long (p4 &&& (2147483647 : Int64))), .second, .val (.int (1 : Int32)), .val (.int (0 : Int32)), .val (.int (1 : Int32)), .val (.int (0 : Int32)), .val (.int (1 : Int32)), .val (.int (1 : Int32)), .val (.int (1 : Int32)), .val (.int (0 : Int32)), .unset, .unset]) at_220 rfl rfl rfl ?_
          refine g_iload C (pc' := 224) at_222 rfl rfl ?_
          refine g_ifN C (pc' := 227) at_224 rfl (by decide) rfl ?_
          refine g_lload C (pc' := 229) at_227 rfl rfl ?_
          refine g_lload C (pc' := 231) at_229 rfl rfl ?_
          refine g_ladd C (pc' := 232) at_231 rfl rfl ?_
          refine g_ldc2Long C (pc' := 235) (wd hw 44 rfl) at_232 rfl ?_
          refine g_lcmp C (pc' := 236) at_235 rfl rfl ?_
          refine g_ifY C (pc' := 243) at_236 rfl (says_t (cd := .le) (fun q => hy' ((lw_gt _ _).mp q))) (by decide) rfl ?_
          refine g_iconst C (pc' := 244) (v := (0 : Int32)) at_243 (by decide) rfl ?_
          refine g_istore C (pc' := 246) (Ls' := #[.val (.int p0), .val (.long p1), .second, .val (.long p2), .second, .val (.long p3), .second, .val (.long p4), .second, .val (.ref b146), .val (.int (2 : Int32)), .val (.long (p2 &&& (2147483647 : Int64))), .second, .val (.long (p3 &&& (2147483647 : Int64))), .second, .val (.long (p4 &&& (2147483647 : Int64))), .second, .val (.int (1 : Int32)), .val (.int (0 : Int32)), .val (.int (1 : Int32)), .val (.int (0 : Int32)), .val (.int (1 : Int32)), .val (.int (1 : Int32)), .val (.int (1 : Int32)), .val (.int (0 : Int32)), .val (.int (0 : Int32)), .unset]) at_244 rfl rfl rfl ?_
          refine g_iload C (pc' := 248) at_246 rfl rfl ?_
          refine g_ifN C (pc' := 251) at_248 rfl (by decide) rfl ?_
          refine g_lload C (pc' := 253) at_251 rfl rfl ?_
          refine g_lload C (pc' := 255) at_253 rfl rfl ?_
          refine g_ladd C (pc' := 256) at_255 rfl rfl ?_
          refine g_lload C (pc' := 258) at_256 rfl rfl ?_
          refine g_ladd C (pc' := 259) at_258 rfl rfl ?_
          refine g_ldc2Long C (pc' := 262) (wd hw 44 rfl) at_259 rfl ?_
          refine g_lcmp C (pc' := 263) at_262 rfl rfl ?_
          refine g_ifN C (pc' := 266) at_263 rfl (says_f (cd := .le) (fun q => q ((lw_gt _ _).mpr hz'))) rfl ?_
          refine g_iconst C (pc' := 267) (v := (1 : Int32)) at_266 (by decide) rfl ?_
          refine g_goto C (pc' := 271) at_267 (by decide) rfl ?_
          refine g_istore C (pc' := 273) (Ls' := #[.val (.int p0), .val (.long p1), .second, .val (.long p2), .second, .val (.long p3), .second, .val (.long p4), .second, .val (.ref b146), .val (.int (2 : Int32)), .val (.long (p2 &&& (2147483647 : Int64))), .second, .val (.long (p3 &&& (2147483647 : Int64))), .second, .val (.long (p4 &&& (2147483647 : Int64))), .second, .val (.int (1 : Int32)), .val (.int (0 : Int32)), .val (.int (1 : Int32)), .val (.int (0 : Int32)), .val (.int (1 : Int32)), .val (.int (1 : Int32)), .val (.int (1 : Int32)), .val (.int (0 : Int32)), .val (.int (0 : Int32)), .val (.int (1 : Int32))]) at_271 rfl rfl rfl ?_
          refine g_iload C (pc' := 275) at_273 rfl rfl ?_
          refine g_ifN C (pc' := 278) at_275 rfl (by decide) rfl ?_
          refine g_iload C (pc' := 280) at_278 rfl rfl ?_
          refine g_iload C (pc' := 282) at_280 rfl rfl ?_
          refine g_icN C (pc' := 285) at_282 rfl (by decide) rfl ?_
          refine g_iload C (pc' := 287) at_285 rfl rfl ?_
          refine g_iload C (pc' := 289) at_287 rfl rfl ?_
          refine g_ifN C (pc' := 292) at_289 rfl (by decide) rfl ?_
          refine g_iconst C (pc' := 293) (v := (1 : Int32)) at_292 (by decide) rfl ?_
          refine g_goto C (pc' := 297) at_293 (by decide) rfl ?_
          refine g_icN C (pc' := 300) at_297 rfl (by decide) rfl ?_
          refine g_iload C (pc' := 302) at_300 rfl rfl ?_
          refine g_iload C (pc' := 304) at_302 rfl rfl ?_
          refine g_icN C (pc' := 307) at_304 rfl (by decide) rfl ?_
          refine g_iload C (pc' := 309) at_307 rfl rfl ?_
          refine g_iload C (pc' := 311) at_309 rfl rfl ?_
          refine g_ifN C (pc' := 314) at_311 rfl (by decide) rfl ?_
          refine g_iconst C (pc' := 315) (v := (1 : Int32)) at_314 (by decide) rfl ?_
          refine g_goto C (pc' := 319) at_315 (by decide) rfl ?_
          refine g_icN C (pc' := 322) at_319 rfl (by decide) rfl ?_
          refine g_iload C (pc' := 324) at_322 rfl rfl ?_
          refine g_iload C (pc' := 326) at_324 rfl rfl ?_
          refine g_icN C (pc' := 329) at_326 rfl (by decide) rfl ?_
          refine g_iload C (pc' := 331) at_329 rfl rfl ?_
          refine g_ifN C (pc' := 334) at_331 rfl (by decide) rfl ?_
          refine g_iconst C (pc' := 335) (v := (1 : Int32)) at_334 (by decide) rfl ?_
          refine g_goto C (pc' := 339) at_335 (by decide) rfl ?_
          exact g_zreturn C at_339 rfl rfl (Nat.le_of_ble_eq_true rfl) (Nat.le_of_ble_eq_true rfl) (rfl)
        · have hz' : ¬ (8192 : Int64) < (((p2 &&& (2147483647 : Int64)) + (p3 &&& (2147483647 : Int64))) + (p4 &&& (2147483647 : Int64))) := by rw [Int64.zero_add] at hz; exact hz
          refine g_aload C (pc' := 81) at_79 rfl rfl rfl ?_
          refine g_lload C (pc' := 83) at_81 rfl rfl ?_
          refine g_virtual C (pc' := 86) (k' := 1) (n' := 4) (argsL := [(.long (p2 &&& (2147483647 : Int64)))]) (rest := []) (wd hw 10 rfl) (wd hw 11 rfl) (nfSel (wd hw 13 rfl)) (wd hw 13 rfl) (wd hw 12 rfl) (wd hw 2 rfl) (wd hw 14 rfl) (by decide) at_83 pd_1 rfl rfl rfl f211 (drops_0 l Z a0 hw n0 h207 f210 H b146 ge_b146 p1 (0 : Int64) (p2 &&& (2147483647 : Int64)) hx P206) (Nat.le_of_ble_eq_true rfl) (Nat.le_of_ble_eq_true rfl) (Nat.le_of_ble_eq_true rfl) (Nat.le_of_ble_eq_true rfl) rfl rfl rfl (fun v302 h301 q303 => ?_)
          obtain ⟨rfl, K299, P300⟩ := q303
          have f304 := f210.keep K299 (allS ge_b146 all0)
          have f305 := f211.keep K299
          show G w _ h301 1 4 86 #[.val (.int p0), .val (.long p1), .second, .val (.long p2), .second, .val (.long p3), .second, .val (.long p4), .second, .val (.ref b146), .val (.int (2 : Int32)), .val (.long (p2 &&& (2147483647 : Int64))), .second, .val (.long (p3 &&& (2147483647 : Int64))), .second, .val (.long (p4 &&& (2147483647 : Int64))), .second, .unset, .unset, .unset, .unset, .unset, .unset, .unset, .unset, .unset, .unset] [(.int (1 : Int32))]
          refine g_istore C (pc' := 88) (Ls' := #[.val (.int p0), .val (.long p1), .second, .val (.long p2), .second, .val (.long p3), .second, .val (.long p4), .second, .val (.ref b146), .val (.int (2 : Int32)), .val (.long (p2 &&& (2147483647 : Int64))), .second, .val (.long (p3 &&& (2147483647 : Int64))), .second, .val (.long (p4 &&& (2147483647 : Int64))), .second, .val (.int (1 : Int32)), .unset, .unset, .unset, .unset, .unset, .unset, .unset, .unset, .unset]) at_86 rfl rfl rfl ?_
          refine g_aload C (pc' := 90) at_88 rfl rfl rfl ?_
          refine g_virtual C (pc' := 93) (k' := 1) (n' := 4) (argsL := []) (rest := []) (wd hw 17 rfl) (wd hw 18 rfl) (nfSel (wd hw 20 rfl)) (wd hw 20 rfl) (wd hw 19 rfl) (wd hw 2 rfl) (wd hw 21 rfl) (by decide) at_90 pd_2 rfl rfl rfl f305 (givenUp_01 l Z a0 hw n0 h301 f304 H b146 ge_b146 p1 ((0 : Int64) + (p2 &&& (2147483647 : Int64))) P300) (Nat.le_of_ble_eq_true rfl) (Nat.le_of_ble_eq_true rfl) (Nat.le_of_ble_eq_true rfl) (Nat.le_of_ble_eq_true rfl) rfl rfl rfl (fun v307 h306 q308 => ?_)
          obtain ⟨rfl, eh306⟩ := q308
          subst h306
          show G w _ h301 1 4 93 #[.val (.int p0), .val (.long p1), .second, .val (.long p2), .second, .val (.long p3), .second, .val (.long p4), .second, .val (.ref b146), .val (.int (2 : Int32)), .val (.long (p2 &&& (2147483647 : Int64))), .second, .val (.long (p3 &&& (2147483647 : Int64))), .second, .val (.long (p4 &&& (2147483647 : Int64))), .second, .val (.int (1 : Int32)), .unset, .unset, .unset, .unset, .unset, .unset, .unset, .unset, .unset] [(.int (0 : Int32))]
          refine g_istore C (pc' := 95) (Ls' := #[.val (.int p0), .val (.long p1), .second, .val (.long p2), .second, .val (.long p3), .second, .val (.long p4), .second, .val (.ref b146), .val (.int (2 : Int32)), .val (.long (p2 &&& (2147483647 : Int64))), .second, .val (.long (p3 &&& (2147483647 : Int64))), .second, .val (.long (p4 &&& (2147483647 : Int64))), .second, .val (.int (1 : Int32)), .val (.int (0 : Int32)), .unset, .unset, .unset, .unset, .unset, .unset, .unset, .unset]) at_93 rfl rfl rfl ?_
          refine g_aload C (pc' := 97) at_95 rfl rfl rfl ?_
          refine g_lload C (pc' := 99) at_97 rfl rfl ?_
          refine g_virtual C (pc' := 102) (k' := 1) (n' := 4) (argsL := [(.long (p3 &&& (2147483647 : Int64)))]) (rest := []) (wd hw 10 rfl) (wd hw 11 rfl) (nfSel (wd hw 13 rfl)) (wd hw 13 rfl) (wd hw 12 rfl) (wd hw 2 rfl) (wd hw 14 rfl) (by decide) at_99 pd_1 rfl rfl rfl f305 (drops_0 l Z a0 hw n0 h301 f304 H b146 ge_b146 p1 ((0 : Int64) + (p2 &&& (2147483647 : Int64))) (p3 &&& (2147483647 : Int64)) hy P300) (Nat.le_of_ble_eq_true rfl) (Nat.le_of_ble_eq_true rfl) (Nat.le_of_ble_eq_true rfl) (Nat.le_of_ble_eq_true rfl) rfl rfl rfl (fun v312 h311 q313 => ?_)
          obtain ⟨rfl, K309, P310⟩ := q313
          have f314 := f304.keep K309 (allS ge_b146 all0)
          have f315 := f305.keep K309
          show G w _ h311 1 4 102 #[.val (.int p0), .val (.long p1), .second, .val (.long p2), .second, .val (.long p3), .second, .val (.long p4), .second, .val (.ref b146), .val (.int (2 : Int32)), .val (.long (p2 &&& (2147483647 : Int64))), .second, .val (.long (p3 &&& (2147483647 : Int64))), .second, .val (.long (p4 &&& (2147483647 : Int64))), .second, .val (.int (1 : Int32)), .val (.int (0 : Int32)), .unset, .unset, .unset, .unset, .unset, .unset, .unset, .unset] [(.int (1 : Int32))]
          refine g_istore C (pc' := 104) (Ls' := #[.val (.int p0), .val (.long p1), .second, .val (.long p2), .second, .val (.long p3), .second, .val (.long p4), .second, .val (.ref b146), .val (.int (2 : Int32)), .val (.long (p2 &&& (2147483647 : Int64))), .second, .val (.long (p3 &&& (2147483647 : Int64))), .second, .val (.long (p4 &&& (2147483647 : Int64))), .second, .val (.int (1 : Int32)), .val (.int (0 : Int32)), .val (.int (1 : Int32)), .unset, .unset, .unset, .unset, .unset, .unset, .unset]) at_102 rfl rfl rfl ?_
          refine g_aload C (pc' := 106) at_104 rfl rfl rfl ?_
          refine g_virtual C (pc' := 109) (k' := 1) (n' := 4) (argsL := []) (rest := []) (wd hw 17 rfl) (wd hw 18 rfl) (nfSel (wd hw 20 rfl)) (wd hw 20 rfl) (wd hw 19 rfl) (wd hw 2 rfl) (wd hw 21 rfl) (by decide) at_106 pd_2 rfl rfl rfl f315 (givenUp_01 l Z a0 hw n0 h311 f314 H b146 ge_b146 p1 (((0 : Int64) + (p2 &&& (2147483647 : Int64))) + (p3 &&& (2147483647 : Int64))) P310) (Nat.le_of_ble_eq_true rfl) (Nat.le_of_ble_eq_true rfl) (Nat.le_of_ble_eq_true rfl) (Nat.le_of_ble_eq_true rfl) rfl rfl rfl (fun v317 h316 q318 => ?_)
          obtain ⟨rfl, eh316⟩ := q318
          subst h316
          show G w _ h311 1 4 109 #[.val (.int p0), .val (.long p1), .second, .val (.long p2), .second, .val (.long p3), .second, .val (.long p4), .second, .val (.ref b146), .val (.int (2 : Int32)), .val (.long (p2 &&& (2147483647 : Int64))), .second, .val (.long (p3 &&& (2147483647 : Int64))), .second, .val (.long (p4 &&& (2147483647 : Int64))), .second, .val (.int (1 : Int32)), .val (.int (0 : Int32)), .val (.int (1 : Int32)), .unset, .unset, .unset, .unset, .unset, .unset, .unset] [(.int (0 : Int32))]
          refine g_istore C (pc' := 111) (Ls' := #[.val (.int p0), .val (.long p1), .second, .val (.long p2), .second, .val (.long p3), .second, .val (.long p4), .second, .val (.ref b146), .val (.int (2 : Int32)), .val (.long (p2 &&& (2147483647 : Int64))), .second, .val (.long (p3 &&& (2147483647 : Int64))), .second, .val (.long (p4 &&& (2147483647 : Int64))), .second, .val (.int (1 : Int32)), .val (.int (0 : Int32)), .val (.int (1 : Int32)), .val (.int (0 : Int32)), .unset, .unset, .unset, .unset, .unset, .unset]) at_109 rfl rfl rfl ?_
          refine g_aload C (pc' := 113) at_111 rfl rfl rfl ?_
          refine g_lload C (pc' := 115) at_113 rfl rfl ?_
          refine g_virtual C (pc' := 118) (k' := 1) (n' := 4) (argsL := [(.long (p4 &&& (2147483647 : Int64)))]) (rest := []) (wd hw 10 rfl) (wd hw 11 rfl) (nfSel (wd hw 13 rfl)) (wd hw 13 rfl) (wd hw 12 rfl) (wd hw 2 rfl) (wd hw 14 rfl) (by decide) at_115 pd_1 rfl rfl rfl f315 (drops_0 l Z a0 hw n0 h311 f314 H b146 ge_b146 p1 (((0 : Int64) + (p2 &&& (2147483647 : Int64))) + (p3 &&& (2147483647 : Int64))) (p4 &&& (2147483647 : Int64)) hz P310) (Nat.le_of_ble_eq_true rfl) (Nat.le_of_ble_eq_true rfl) (Nat.le_of_ble_eq_true rfl) (Nat.le_of_ble_eq_true rfl) rfl rfl rfl (fun v322 h321 q323 => ?_)
          obtain ⟨rfl, K319, P320⟩ := q323
          have f324 := f314.keep K319 (allS ge_b146 all0)
          have f325 := f315.keep K319
          show G w _ h321 1 4 118 #[.val (.int p0), .val (.long p1), .second, .val (.long p2), .second, .val (.long p3), .second, .val (.long p4), .second, .val (.ref b146), .val (.int (2 : Int32)), .val (.long (p2 &&& (2147483647 : Int64))), .second, .val (.long (p3 &&& (2147483647 : Int64))), .second, .val (.long (p4 &&& (2147483647 : Int64))), .second, .val (.int (1 : Int32)), .val (.int (0 : Int32)), .val (.int (1 : Int32)), .val (.int (0 : Int32)), .unset, .unset, .unset, .unset, .unset, .unset] [(.int (1 : Int32))]
          refine g_istore C (pc' := 120) (Ls' := #[.val (.int p0), .val (.long p1), .second, .val (.long p2), .second, .val (.long p3), .second, .val (.long p4), .second, .val (.ref b146), .val (.int (2 : Int32)), .val (.long (p2 &&& (2147483647 : Int64))), .second, .val (.long (p3 &&& (2147483647 : Int64))), .second, .val (.long (p4 &&& (2147483647 : Int64))), .second, .val (.int (1 : Int32)), .val (.int (0 : Int32)), .val (.int (1 : Int32)), .val (.int (0 : Int32)), .val (.int (1 : Int32)), .unset, .unset, .unset, .unset, .unset]) at_118 rfl rfl rfl ?_
          refine g_aload C (pc' := 122) at_120 rfl rfl rfl ?_
          refine g_virtual C (pc' := 125) (k' := 1) (n' := 4) (argsL := []) (rest := []) (wd hw 17 rfl) (wd hw 18 rfl) (nfSel (wd hw 20 rfl)) (wd hw 20 rfl) (wd hw 19 rfl) (wd hw 2 rfl) (wd hw 21 rfl) (by decide) at_122 pd_2 rfl rfl rfl f325 (givenUp_01 l Z a0 hw n0 h321 f324 H b146 ge_b146 p1 ((((0 : Int64) + (p2 &&& (2147483647 : Int64))) + (p3 &&& (2147483647 : Int64))) + (p4 &&& (2147483647 : Int64))) P320) (Nat.le_of_ble_eq_true rfl) (Nat.le_of_ble_eq_true rfl) (Nat.le_of_ble_eq_true rfl) (Nat.le_of_ble_eq_true rfl) rfl rfl rfl (fun v327 h326 q328 => ?_)
          obtain ⟨rfl, eh326⟩ := q328
          subst h326
          show G w _ h321 1 4 125 #[.val (.int p0), .val (.long p1), .second, .val (.long p2), .second, .val (.long p3), .second, .val (.long p4), .second, .val (.ref b146), .val (.int (2 : Int32)), .val (.long (p2 &&& (2147483647 : Int64))), .second, .val (.long (p3 &&& (2147483647 : Int64))), .second, .val (.long (p4 &&& (2147483647 : Int64))), .second, .val (.int (1 : Int32)), .val (.int (0 : Int32)), .val (.int (1 : Int32)), .val (.int (0 : Int32)), .val (.int (1 : Int32)), .unset, .unset, .unset, .unset, .unset] [(.int (0 : Int32))]
          refine g_istore C (pc' := 127) (Ls' := #[.val (.int p0), .val (.long p1), .second, .val (.long p2), .second, .val (.long p3), .second, .val (.long p4), .second, .val (.ref b146), .val (.int (2 : Int32)), .val (.long (p2 &&& (2147483647 : Int64))), .second, .val (.long (p3 &&& (2147483647 : Int64))), .second, .val (.long (p4 &&& (2147483647 : Int64))), .second, .val (.int (1 : Int32)), .val (.int (0 : Int32)), .val (.int (1 : Int32)), .val (.int (0 : Int32)), .val (.int (1 : Int32)), .val (.int (0 : Int32)), .unset, .unset, .unset, .unset]) at_125 rfl rfl rfl ?_
          refine g_aload C (pc' := 129) at_127 rfl rfl rfl ?_
          refine g_virtual C (pc' := 132) (k' := 1) (n' := 4) (argsL := []) (rest := []) (wd hw 24 rfl) (wd hw 25 rfl) (nfSel (wd hw 27 rfl)) (wd hw 27 rfl) (wd hw 26 rfl) (wd hw 2 rfl) (wd hw 28 rfl) (by decide) at_129 pd_2 rfl rfl rfl f325 (isLetGo_01 l Z a0 hw n0 h321 f324 H b146 ge_b146 p1 ((((0 : Int64) + (p2 &&& (2147483647 : Int64))) + (p3 &&& (2147483647 : Int64))) + (p4 &&& (2147483647 : Int64))) P320) (Nat.le_of_ble_eq_true rfl) (Nat.le_of_ble_eq_true rfl) (Nat.le_of_ble_eq_true rfl) (Nat.le_of_ble_eq_true rfl) rfl rfl rfl (fun v330 h329 q331 => ?_)
          obtain ⟨rfl, eh329⟩ := q331
          subst h329
          show G w _ h321 1 4 132 #[.val (.int p0), .val (.long p1), .second, .val (.long p2), .second, .val (.long p3), .second, .val (.long p4), .second, .val (.ref b146), .val (.int (2 : Int32)), .val (.long (p2 &&& (2147483647 : Int64))), .second, .val (.long (p3 &&& (2147483647 : Int64))), .second, .val (.long (p4 &&& (2147483647 : Int64))), .second, .val (.int (1 : Int32)), .val (.int (0 : Int32)), .val (.int (1 : Int32)), .val (.int (0 : Int32)), .val (.int (1 : Int32)), .val (.int (0 : Int32)), .unset, .unset, .unset, .unset] [(.int (1 : Int32))]
          refine g_istore C (pc' := 134) (Ls' := #[.val (.int p0), .val (.long p1), .second, .val (.long p2), .second, .val (.long p3), .second, .val (.long p4), .second, .val (.ref b146), .val (.int (2 : Int32)), .val (.long (p2 &&& (2147483647 : Int64))), .second, .val (.long (p3 &&& (2147483647 : Int64))), .second, .val (.long (p4 &&& (2147483647 : Int64))), .second, .val (.int (1 : Int32)), .val (.int (0 : Int32)), .val (.int (1 : Int32)), .val (.int (0 : Int32)), .val (.int (1 : Int32)), .val (.int (0 : Int32)), .val (.int (1 : Int32)), .unset, .unset, .unset]) at_132 rfl rfl rfl ?_
          refine g_iload C (pc' := 136) at_134 rfl rfl ?_
          refine g_iconst C (pc' := 137) (v := (2 : Int32)) at_136 (by decide) rfl ?_
          refine g_icY C (pc' := 206) at_137 rfl (by decide) (by decide) rfl ?_
          refine g_lload C (pc' := 208) at_206 rfl rfl ?_
          refine g_ldc2Long C (pc' := 211) (wd hw 44 rfl) at_208 rfl ?_
          refine g_lcmp C (pc' := 212) at_211 rfl rfl ?_
          refine g_ifY C (pc' := 219) at_212 rfl (says_t (cd := .le) (fun q => hx' ((lw_gt _ _).mp q))) (by decide) rfl ?_
          refine g_iconst C (pc' := 220) (v := (0 : Int32)) at_219 (by decide) rfl ?_
          refine g_istore C (pc' := 222) (Ls' := #[.val (.int p0), .val (.long p1), .second, .val (.long p2), .second, .val (.long p3), .second, .val (.long p4), .second, .val (.ref b146), .val (.int (2 : Int32)), .val (.long (p2 &&& (2147483647 : Int64))), .second, .val (.long (p3 &&& (2147483647 : Int64))), .second, .val (.long (p4 &&& (2147483647 : Int64))), .second, .val (.int (1 : Int32)), .val (.int (0 : Int32)), .val (.int (1 : Int32)), .val (.int (0 : Int32)), .val (.int (1 : Int32)), .val (.int (0 : Int32)), .val (.int (1 : Int32)), .val (.int (0 : Int32)), .unset, .unset]) at_220 rfl rfl rfl ?_
          refine g_iload C (pc' := 224) at_222 rfl rfl ?_
          refine g_ifN C (pc' := 227) at_224 rfl (by decide) rfl ?_
          refine g_lload C (pc' := 229) at_227 rfl rfl ?_
          refine g_lload C (pc' := 231) at_229 rfl rfl ?_
          refine g_ladd C (pc' := 232) at_231 rfl rfl ?_
          refine g_ldc2Long C (pc' := 235) (wd hw 44 rfl) at_232 rfl ?_
          refine g_lcmp C (pc' := 236) at_235 rfl rfl ?_
          refine g_ifY C (pc' := 243) at_236 rfl (says_t (cd := .le) (fun q => hy' ((lw_gt _ _).mp q))) (by decide) rfl ?_
          refine g_iconst C (pc' := 244) (v := (0 : Int32)) at_243 (by decide) rfl ?_
          refine g_istore C (pc' := 246) (Ls' := #[.val (.int p0), .val (.long p1), .second, .val (.long p2), .second, .val (.long p3), .second, .val (.long p4), .second, .val (.ref b146), .val (.int (2 : Int32)), .val (.long (p2 &&& (2147483647 : Int64))), .second, .val (.long (p3 &&& (2147483647 : Int64))), .second, .val (.long (p4 &&& (2147483647 : Int64))), .second, .val (.int (1 : Int32)), .val (.int (0 : Int32)), .val (.int (1 : Int32)), .val (.int (0 : Int32)), .val (.int (1 : Int32)), .val (.int (0 : Int32)), .val (.int (1 : Int32)), .val (.int (0 : Int32)), .val (.int (0 : Int32)), .unset]) at_244 rfl rfl rfl ?_
          refine g_iload C (pc' := 248) at_246 rfl rfl ?_
          refine g_ifN C (pc' := 251) at_248 rfl (by decide) rfl ?_
          refine g_lload C (pc' := 253) at_251 rfl rfl ?_
          refine g_lload C (pc' := 255) at_253 rfl rfl ?_
          refine g_ladd C (pc' := 256) at_255 rfl rfl ?_
          refine g_lload C (pc' := 258) at_256 rfl rfl ?_
          refine g_ladd C (pc' := 259) at_258 rfl rfl ?_
          refine g_ldc2Long C (pc' := 262) (wd hw 44 rfl) at_259 rfl ?_
          refine g_lcmp C (pc' := 263) at_262 rfl rfl ?_
          refine g_ifY C (pc' := 270) at_263 rfl (says_t (cd := .le) (fun q => hz' ((lw_gt _ _).mp q))) (by decide) rfl ?_
          refine g_iconst C (pc' := 271) (v := (0 : Int32)) at_270 (by decide) rfl ?_
          refine g_istore C (pc' := 273) (Ls' := #[.val (.int p0), .val (.long p1), .second, .val (.long p2), .second, .val (.long p3), .second, .val (.long p4), .second, .val (.ref b146), .val (.int (2 : Int32)), .val (.long (p2 &&& (2147483647 : Int64))), .second, .val (.long (p3 &&& (2147483647 : Int64))), .second, .val (.long (p4 &&& (2147483647 : Int64))), .second, .val (.int (1 : Int32)), .val (.int (0 : Int32)), .val (.int (1 : Int32)), .val (.int (0 : Int32)), .val (.int (1 : Int32)), .val (.int (0 : Int32)), .val (.int (1 : Int32)), .val (.int (0 : Int32)), .val (.int (0 : Int32)), .val (.int (0 : Int32))]) at_271 rfl rfl rfl ?_
          refine g_iload C (pc' := 275) at_273 rfl rfl ?_
          refine g_ifN C (pc' := 278) at_275 rfl (by decide) rfl ?_
          refine g_iload C (pc' := 280) at_278 rfl rfl ?_
          refine g_iload C (pc' := 282) at_280 rfl rfl ?_
          refine g_icN C (pc' := 285) at_282 rfl (by decide) rfl ?_
          refine g_iload C (pc' := 287) at_285 rfl rfl ?_
          refine g_iload C (pc' := 289) at_287 rfl rfl ?_
          refine g_ifN C (pc' := 292) at_289 rfl (by decide) rfl ?_
          refine g_iconst C (pc' := 293) (v := (1 : Int32)) at_292 (by decide) rfl ?_
          refine g_goto C (pc' := 297) at_293 (by decide) rfl ?_
          refine g_icN C (pc' := 300) at_297 rfl (by decide) rfl ?_
          refine g_iload C (pc' := 302) at_300 rfl rfl ?_
          refine g_iload C (pc' := 304) at_302 rfl rfl ?_
          refine g_icN C (pc' := 307) at_304 rfl (by decide) rfl ?_
          refine g_iload C (pc' := 309) at_307 rfl rfl ?_
          refine g_iload C (pc' := 311) at_309 rfl rfl ?_
          refine g_ifN C (pc' := 314) at_311 rfl (by decide) rfl ?_
          refine g_iconst C (pc' := 315) (v := (1 : Int32)) at_314 (by decide) rfl ?_
          refine g_goto C (pc' := 319) at_315 (by decide) rfl ?_
          refine g_icN C (pc' := 322) at_319 rfl (by decide) rfl ?_
          refine g_iload C (pc' := 324) at_322 rfl rfl ?_
          refine g_iload C (pc' := 326) at_324 rfl rfl ?_
          refine g_icN C (pc' := 329) at_326 rfl (by decide) rfl ?_
          refine g_iload C (pc' := 331) at_329 rfl rfl ?_
          refine g_ifN C (pc' := 334) at_331 rfl (by decide) rfl ?_
          refine g_iconst C (pc' := 335) (v := (1 : Int32)) at_334 (by decide) rfl ?_
          refine g_goto C (pc' := 339) at_335 (by decide) rfl ?_
          exact g_zreturn C at_339 rfl rfl (Nat.le_of_ble_eq_true rfl) (Nat.le_of_ble_eq_true rfl) (rfl)
  · rw [e4]
    refine g_istore C (pc' := 14) (Ls' := #[.val (.int p0), .val (.long p1), .second, .val (.long p2), .second, .val (.long p3), .second, .val (.long p4), .second, .val (.ref b146), .val (.int (3 : Int32)), .unset, .unset, .unset, .unset, .unset, .unset, .unset, .unset, .unset, .unset, .unset, .unset, .unset, .unset, .unset, .unset]) at_12 rfl rfl rfl ?_
    refine g_iload C (pc' := 16) at_14 rfl rfl ?_
    refine g_iconst C (pc' := 17) (v := (1 : Int32)) at_16 (by decide) rfl ?_
    refine g_icY C (pc' := 26) at_17 rfl (by decide) (by decide) rfl ?_
    refine g_iload C (pc' := 28) at_26 rfl rfl ?_
    refine g_iconst C (pc' := 29) (v := (2 : Int32)) at_28 (by decide) rfl ?_
    refine g_icN C (pc' := 32) at_29 rfl (by decide) rfl ?_
    refine g_aload C (pc' := 34) at_32 rfl rfl rfl ?_
    refine g_lloadN C (pc' := 35) at_34 rfl rfl ?_
    refine g_virtual C (pc' := 38) (k' := 1) (n' := 4) (argsL := [(.long p1)]) (rest := []) (wd hw 34 rfl) (wd hw 35 rfl) (nfSel (wd hw 37 rfl)) (wd hw 37 rfl) (wd hw 36 rfl) (wd hw 2 rfl) (wd hw 38 rfl) (by decide) at_35 pd_1 rfl rfl rfl A149 (letGo_00 l Z a0 hw n0 h145 f151 H b146 ge_b146 (0 : Int64) (0 : Int64) p1 P152) (Nat.le_of_ble_eq_true rfl) (Nat.le_of_ble_eq_true rfl) (Nat.le_of_ble_eq_true rfl) (Nat.le_of_ble_eq_true rfl) rfl rfl rfl (fun v335 h334 q336 => ?_)
    obtain ⟨rfl, K332, P333⟩ := q336
    have f337 := f151.keep K332 (allS ge_b146 all0)
    have f338 := A149.keep K332
    show G w _ h334 1 4 38 #[.val (.int p0), .val (.long p1), .second, .val (.long p2), .second, .val (.long p3), .second, .val (.long p4), .second, .val (.ref b146), .val (.int (3 : Int32)), .unset, .unset, .unset, .unset, .unset, .unset, .unset, .unset, .unset, .unset, .unset, .unset, .unset, .unset, .unset, .unset] [(.int (1 : Int32))]
    refine g_pop C (pc' := 39) at_38 rfl rfl rfl ?_
    refine g_iload C (pc' := 41) at_39 rfl rfl ?_
    refine g_iconst C (pc' := 42) (v := (3 : Int32)) at_41 (by decide) rfl ?_
    refine g_icN C (pc' := 45) at_42 rfl (by decide) rfl ?_
    refine g_aload C (pc' := 47) at_45 rfl rfl rfl ?_
    refine g_lloadN C (pc' := 48) at_47 rfl rfl ?_
    refine g_ldc2Long C (pc' := 51) (wd hw 45 rfl) at_48 rfl ?_
    refine g_ladd C (pc' := 52) at_51 rfl rfl ?_
    refine g_virtual C (pc' := 55) (k' := 1) (n' := 4) (argsL := [(.long (p1 + (2000000000 : Int64)))]) (rest := []) (wd hw 46 rfl) (wd hw 47 rfl) (nfSel (wd hw 49 rfl)) (wd hw 49 rfl) (wd hw 48 rfl) (wd hw 2 rfl) (wd hw 50 rfl) (by decide) at_52 pd_3 rfl rfl rfl f338 (until_010 l Z a0 hw n0 h334 f337 H b146 ge_b146 p1 (0 : Int64) (p1 + (2000000000 : Int64)) (own_back _) P333) (Nat.le_of_ble_eq_true rfl) (Nat.le_of_ble_eq_true rfl) (Nat.le_of_ble_eq_true rfl) (Nat.le_of_ble_eq_true rfl) rfl rfl rfl (fun v342 h341 q343 => ?_)
    obtain ⟨rfl, K339, P340⟩ := q343
    have f344 := f337.keep K339 (allS ge_b146 all0)
    have f345 := f338.keep K339
    show G w _ h341 1 4 55 #[.val (.int p0), .val (.long p1), .second, .val (.long p2), .second, .val (.long p3), .second, .val (.long p4), .second, .val (.ref b146), .val (.int (3 : Int32)), .unset, .unset, .unset, .unset, .unset, .unset, .unset, .unset, .unset, .unset, .unset, .unset, .unset, .unset, .unset, .unset] [(.long ((1000000000 : Int64) - ((p1 + (2000000000 : Int64)) - p1)))]
    refine g_pop2L C (pc' := 56) at_55 rfl rfl ?_
    refine g_lloadN C (pc' := 57) at_56 rfl rfl ?_
    refine g_ldc2Long C (pc' := 60) (wd hw 9 rfl) at_57 rfl ?_
    refine g_land C (pc' := 61) at_60 rfl rfl ?_
    refine g_lstore C (pc' := 63) (Ls' := #[.val (.int p0), .val (.long p1), .second, .val (.long p2), .second, .val (.long p3), .second, .val (.long p4), .second, .val (.ref b146), .val (.int (3 : Int32)), .val (.long (p2 &&& (2147483647 : Int64))), .second, .unset, .unset, .unset, .unset, .unset, .unset, .unset, .unset, .unset, .unset, .unset, .unset, .unset, .unset]) at_61 rfl rfl rfl ?_
    refine g_lload C (pc' := 65) at_63 rfl rfl ?_
    refine g_ldc2Long C (pc' := 68) (wd hw 9 rfl) at_65 rfl ?_
    refine g_land C (pc' := 69) at_68 rfl rfl ?_
    refine g_lstore C (pc' := 71) (Ls' := #[.val (.int p0), .val (.long p1), .second, .val (.long p2), .second, .val (.long p3), .second, .val (.long p4), .second, .val (.ref b146), .val (.int (3 : Int32)), .val (.long (p2 &&& (2147483647 : Int64))), .second, .val (.long (p3 &&& (2147483647 : Int64))), .second, .unset, .unset, .unset, .unset, .unset, .unset, .unset, .unset, .unset, .unset, .unset, .unset]) at_69 rfl rfl rfl ?_
    refine g_lload C (pc' := 73) at_71 rfl rfl ?_
    refine g_ldc2Long C (pc' := 76) (wd hw 9 rfl) at_73 rfl ?_
    refine g_land C (pc' := 77) at_76 rfl rfl ?_
    refine g_lstore C (pc' := 79) (Ls' := #[.val (.int p0), .val (.long p1), .second, .val (.long p2), .second, .val (.long p3), .second, .val (.long p4), .second, .val (.ref b146), .val (.int (3 : Int32)), .val (.long (p2 &&& (2147483647 : Int64))), .second, .val (.long (p3 &&& (2147483647 : Int64))), .second, .val (.long (p4 &&& (2147483647 : Int64))), .second, .unset, .unset, .unset, .unset, .unset, .unset, .unset, .unset, .unset, .unset]) at_77 rfl rfl rfl ?_
    refine g_aload C (pc' := 81) at_79 rfl rfl rfl ?_
    refine g_lload C (pc' := 83) at_81 rfl rfl ?_
    refine g_virtual C (pc' := 86) (k' := 1) (n' := 4) (argsL := [(.long (p2 &&& (2147483647 : Int64)))]) (rest := []) (wd hw 10 rfl) (wd hw 11 rfl) (nfSel (wd hw 13 rfl)) (wd hw 13 rfl) (wd hw 12 rfl) (wd hw 2 rfl) (wd hw 14 rfl) (by decide) at_83 pd_1 rfl rfl rfl f345 (drops_11 l Z a0 hw n0 h341 f344 H b146 ge_b146 p1 (0 : Int64) (p2 &&& (2147483647 : Int64)) P340) (Nat.le_of_ble_eq_true rfl) (Nat.le_of_ble_eq_true rfl) (Nat.le_of_ble_eq_true rfl) (Nat.le_of_ble_eq_true rfl) rfl rfl rfl (fun v347 h346 q348 => ?_)
    obtain ⟨rfl, eh346⟩ := q348
    subst h346
    show G w _ h341 1 4 86 #[.val (.int p0), .val (.long p1), .second, .val (.long p2), .second, .val (.long p3), .second, .val (.long p4), .second, .val (.ref b146), .val (.int (3 : Int32)), .val (.long (p2 &&& (2147483647 : Int64))), .second, .val (.long (p3 &&& (2147483647 : Int64))), .second, .val (.long (p4 &&& (2147483647 : Int64))), .second, .unset, .unset, .unset, .unset, .unset, .unset, .unset, .unset, .unset, .unset] [(.int (0 : Int32))]
    refine g_istore C (pc' := 88) (Ls' := #[.val (.int p0), .val (.long p1), .second, .val (.long p2), .second, .val (.long p3), .second, .val (.long p4), .second, .val (.ref b146), .val (.int (3 : Int32)), .val (.long (p2 &&& (2147483647 : Int64))), .second, .val (.long (p3 &&& (2147483647 : Int64))), .second, .val (.long (p4 &&& (2147483647 : Int64))), .second, .val (.int (0 : Int32)), .unset, .unset, .unset, .unset, .unset, .unset, .unset, .unset, .unset]) at_86 rfl rfl rfl ?_
    refine g_aload C (pc' := 90) at_88 rfl rfl rfl ?_
    refine g_virtual C (pc' := 93) (k' := 1) (n' := 4) (argsL := []) (rest := []) (wd hw 17 rfl) (wd hw 18 rfl) (nfSel (wd hw 20 rfl)) (wd hw 20 rfl) (wd hw 19 rfl) (wd hw 2 rfl) (wd hw 21 rfl) (by decide) at_90 pd_2 rfl rfl rfl f345 (givenUp_11 l Z a0 hw n0 h341 f344 H b146 ge_b146 p1 (0 : Int64) P340) (Nat.le_of_ble_eq_true rfl) (Nat.le_of_ble_eq_true rfl) (Nat.le_of_ble_eq_true rfl) (Nat.le_of_ble_eq_true rfl) rfl rfl rfl (fun v350 h349 q351 => ?_)
    obtain ⟨rfl, eh349⟩ := q351
    subst h349
    show G w _ h341 1 4 93 #[.val (.int p0), .val (.long p1), .second, .val (.long p2), .second, .val (.long p3), .second, .val (.long p4), .second, .val (.ref b146), .val (.int (3 : Int32)), .val (.long (p2 &&& (2147483647 : Int64))), .second, .val (.long (p3 &&& (2147483647 : Int64))), .second, .val (.long (p4 &&& (2147483647 : Int64))), .second, .val (.int (0 : Int32)), .unset, .unset, .unset, .unset, .unset, .unset, .unset, .unset, .unset] [(.int (1 : Int32))]
    refine g_istore C (pc' := 95) (Ls' := #[.val (.int p0), .val (.long p1), .second, .val (.long p2), .second, .val (.long p3), .second, .val (.long p4), .second, .val (.ref b146), .val (.int (3 : Int32)), .val (.long (p2 &&& (2147483647 : Int64))), .second, .val (.long (p3 &&& (2147483647 : Int64))), .second, .val (.long (p4 &&& (2147483647 : Int64))), .second, .val (.int (0 : Int32)), .val (.int (1 : Int32)), .unset, .unset, .unset, .unset, .unset, .unset, .unset, .unset]) at_93 rfl rfl rfl ?_
    refine g_aload C (pc' := 97) at_95 rfl rfl rfl ?_
    refine g_lload C (pc' := 99) at_97 rfl rfl ?_
    refine g_virtual C (pc' := 102) (k' := 1) (n' := 4) (argsL := [(.long (p3 &&& (2147483647 : Int64)))]) (rest := []) (wd hw 10 rfl) (wd hw 11 rfl) (nfSel (wd hw 13 rfl)) (wd hw 13 rfl) (wd hw 12 rfl) (wd hw 2 rfl) (wd hw 14 rfl) (by decide) at_99 pd_1 rfl rfl rfl f345 (drops_11 l Z a0 hw n0 h341 f344 H b146 ge_b146 p1 (0 : Int64) (p3 &&& (2147483647 : Int64)) P340) (Nat.le_of_ble_eq_true rfl) (Nat.le_of_ble_eq_true rfl) (Nat.le_of_ble_eq_true rfl) (Nat.le_of_ble_eq_true rfl) rfl rfl rfl (fun v353 h352 q354 => ?_)
    obtain ⟨rfl, eh352⟩ := q354
    subst h352
    show G w _ h341 1 4 102 #[.val (.int p0), .val (.long p1), .second, .val (.long p2), .second, .val (.long p3), .second, .val (.long p4), .second, .val (.ref b146), .val (.int (3 : Int32)), .val (.long (p2 &&& (2147483647 : Int64))), .second, .val (.long (p3 &&& (2147483647 : Int64))), .second, .val (.long (p4 &&& (2147483647 : Int64))), .second, .val (.int (0 : Int32)), .val (.int (1 : Int32)), .unset, .unset, .unset, .unset, .unset, .unset, .unset, .unset] [(.int (0 : Int32))]
    refine g_istore C (pc' := 104) (Ls' := #[.val (.int p0), .val (.long p1), .second, .val (.long p2), .second, .val (.long p3), .second, .val (.long p4), .second, .val (.ref b146), .val (.int (3 : Int32)), .val (.long (p2 &&& (2147483647 : Int64))), .second, .val (.long (p3 &&& (2147483647 : Int64))), .second, .val (.long (p4 &&& (2147483647 : Int64))), .second, .val (.int (0 : Int32)), .val (.int (1 : Int32)), .val (.int (0 : Int32)), .unset, .unset, .unset, .unset, .unset, .unset, .unset]) at_102 rfl rfl rfl ?_
    refine g_aload C (pc' := 106) at_104 rfl rfl rfl ?_
    refine g_virtual C (pc' := 109) (k' := 1) (n' := 4) (argsL := []) (rest := []) (wd hw 17 rfl) (wd hw 18 rfl) (nfSel (wd hw 20 rfl)) (wd hw 20 rfl) (wd hw 19 rfl) (wd hw 2 rfl) (wd hw 21 rfl) (by decide) at_106 pd_2 rfl rfl rfl f345 (givenUp_11 l Z a0 hw n0 h341 f344 H b146 ge_b146 p1 (0 : Int64) P340) (Nat.le_of_ble_eq_true rfl) (Nat.le_of_ble_eq_true rfl) (Nat.le_of_ble_eq_true rfl) (Nat.le_of_ble_eq_true rfl) rfl rfl rfl (fun v356 h355 q357 => ?_)
    obtain ⟨rfl, eh355⟩ := q357
    subst h355
    show G w _ h341 1 4 109 #[.val (.int p0), .val (.long p1), .second, .val (.long p2), .second, .val (.long p3), .second, .val (.long p4), .second, .val (.ref b146), .val (.int (3 : Int32)), .val (.long (p2 &&& (2147483647 : Int64))), .second, .val (.long (p3 &&& (2147483647 : Int64))), .second, .val (.long (p4 &&& (2147483647 : Int64))), .second, .val (.int (0 : Int32)), .val (.int (1 : Int32)), .val (.int (0 : Int32)), .unset, .unset, .unset, .unset, .unset, .unset, .unset] [(.int (1 : Int32))]
    refine g_istore C (pc' := 111) (Ls' := #[.val (.int p0), .val (.long p1), .second, .val (.long p2), .second, .val (.long p3), .second, .val (.long p4), .second, .val (.ref b146), .val (.int (3 : Int32)), .val (.long (p2 &&& (2147483647 : Int64))), .second, .val (.long (p3 &&& (2147483647 : Int64))), .second, .val (.long (p4 &&& (2147483647 : Int64))), .second, .val (.int (0 : Int32)), .val (.int (1 : Int32)), .val (.int (0 : Int32)), .val (.int (1 : Int32)), .unset, .unset, .unset, .unset, .unset, .unset]) at_109 rfl rfl rfl ?_
    refine g_aload C (pc' := 113) at_111 rfl rfl rfl ?_
    refine g_lload C (pc' := 115) at_113 rfl rfl ?_
    refine g_virtual C (pc' := 118) (k' := 1) (n' := 4) (argsL := [(.long (p4 &&& (2147483647 : Int64)))]) (rest := []) (wd hw 10 rfl) (wd hw 11 rfl) (nfSel (wd hw 13 rfl)) (wd hw 13 rfl) (wd hw 12 rfl) (wd hw 2 rfl) (wd hw 14 rfl) (by decide) at_115 pd_1 rfl rfl rfl f345 (drops_11 l Z a0 hw n0 h341 f344 H b146 ge_b146 p1 (0 : Int64) (p4 &&& (2147483647 : Int64)) P340) (Nat.le_of_ble_eq_true rfl) (Nat.le_of_ble_eq_true rfl) (Nat.le_of_ble_eq_true rfl) (Nat.le_of_ble_eq_true rfl) rfl rfl rfl (fun v359 h358 q360 => ?_)
    obtain ⟨rfl, eh358⟩ := q360
    subst h358
    show G w _ h341 1 4 118 #[.val (.int p0), .val (.long p1), .second, .val (.long p2), .second, .val (.long p3), .second, .val (.long p4), .second, .val (.ref b146), .val (.int (3 : Int32)), .val (.long (p2 &&& (2147483647 : Int64))), .second, .val (.long (p3 &&& (2147483647 : Int64))), .second, .val (.long (p4 &&& (2147483647 : Int64))), .second, .val (.int (0 : Int32)), .val (.int (1 : Int32)), .val (.int (0 : Int32)), .val (.int (1 : Int32)), .unset, .unset, .unset, .unset, .unset, .unset] [(.int (0 : Int32))]
    refine g_istore C (pc' := 120) (Ls' := #[.val (.int p0), .val (.long p1), .second, .val (.long p2), .second, .val (.long p3), .second, .val (.long p4), .second, .val (.ref b146), .val (.int (3 : Int32)), .val (.long (p2 &&& (2147483647 : Int64))), .second, .val (.long (p3 &&& (2147483647 : Int64))), .second, .val (.long (p4 &&& (2147483647 : Int64))), .second, .val (.int (0 : Int32)), .val (.int (1 : Int32)), .val (.int (0 : Int32)), .val (.int (1 : Int32)), .val (.int (0 : Int32)), .unset, .unset, .unset, .unset, .unset]) at_118 rfl rfl rfl ?_
    refine g_aload C (pc' := 122) at_120 rfl rfl rfl ?_
    refine g_virtual C (pc' := 125) (k' := 1) (n' := 4) (argsL := []) (rest := []) (wd hw 17 rfl) (wd hw 18 rfl) (nfSel (wd hw 20 rfl)) (wd hw 20 rfl) (wd hw 19 rfl) (wd hw 2 rfl) (wd hw 21 rfl) (by decide) at_122 pd_2 rfl rfl rfl f345 (givenUp_11 l Z a0 hw n0 h341 f344 H b146 ge_b146 p1 (0 : Int64) P340) (Nat.le_of_ble_eq_true rfl) (Nat.le_of_ble_eq_true rfl) (Nat.le_of_ble_eq_true rfl) (Nat.le_of_ble_eq_true rfl) rfl rfl rfl (fun v362 h361 q363 => ?_)
    obtain ⟨rfl, eh361⟩ := q363
    subst h361
    show G w _ h341 1 4 125 #[.val (.int p0), .val (.long p1), .second, .val (.long p2), .second, .val (.long p3), .second, .val (.long p4), .second, .val (.ref b146), .val (.int (3 : Int32)), .val (.long (p2 &&& (2147483647 : Int64))), .second, .val (.long (p3 &&& (2147483647 : Int64))), .second, .val (.long (p4 &&& (2147483647 : Int64))), .second, .val (.int (0 : Int32)), .val (.int (1 : Int32)), .val (.int (0 : Int32)), .val (.int (1 : Int32)), .val (.int (0 : Int32)), .unset, .unset, .unset, .unset, .unset] [(.int (1 : Int32))]
    refine g_istore C (pc' := 127) (Ls' := #[.val (.int p0), .val (.long p1), .second, .val (.long p2), .second, .val (.long p3), .second, .val (.long p4), .second, .val (.ref b146), .val (.int (3 : Int32)), .val (.long (p2 &&& (2147483647 : Int64))), .second, .val (.long (p3 &&& (2147483647 : Int64))), .second, .val (.long (p4 &&& (2147483647 : Int64))), .second, .val (.int (0 : Int32)), .val (.int (1 : Int32)), .val (.int (0 : Int32)), .val (.int (1 : Int32)), .val (.int (0 : Int32)), .val (.int (1 : Int32)), .unset, .unset, .unset, .unset]) at_125 rfl rfl rfl ?_
    refine g_aload C (pc' := 129) at_127 rfl rfl rfl ?_
    refine g_virtual C (pc' := 132) (k' := 1) (n' := 4) (argsL := []) (rest := []) (wd hw 24 rfl) (wd hw 25 rfl) (nfSel (wd hw 27 rfl)) (wd hw 27 rfl) (wd hw 26 rfl) (wd hw 2 rfl) (wd hw 28 rfl) (by decide) at_129 pd_2 rfl rfl rfl f345 (isLetGo_11 l Z a0 hw n0 h341 f344 H b146 ge_b146 p1 (0 : Int64) P340) (Nat.le_of_ble_eq_true rfl) (Nat.le_of_ble_eq_true rfl) (Nat.le_of_ble_eq_true rfl) (Nat.le_of_ble_eq_true rfl) rfl rfl rfl (fun v365 h364 q366 => ?_)
    obtain ⟨rfl, eh364⟩ := q366
    subst h364
    show G w _ h341 1 4 132 #[.val (.int p0), .val (.long p1), .second, .val (.long p2), .second, .val (.long p3), .second, .val (.long p4), .second, .val (.ref b146), .val (.int (3 : Int32)), .val (.long (p2 &&& (2147483647 : Int64))), .second, .val (.long (p3 &&& (2147483647 : Int64))), .second, .val (.long (p4 &&& (2147483647 : Int64))), .second, .val (.int (0 : Int32)), .val (.int (1 : Int32)), .val (.int (0 : Int32)), .val (.int (1 : Int32)), .val (.int (0 : Int32)), .val (.int (1 : Int32)), .unset, .unset, .unset, .unset] [(.int (1 : Int32))]
    refine g_istore C (pc' := 134) (Ls' := #[.val (.int p0), .val (.long p1), .second, .val (.long p2), .second, .val (.long p3), .second, .val (.long p4), .second, .val (.ref b146), .val (.int (3 : Int32)), .val (.long (p2 &&& (2147483647 : Int64))), .second, .val (.long (p3 &&& (2147483647 : Int64))), .second, .val (.long (p4 &&& (2147483647 : Int64))), .second, .val (.int (0 : Int32)), .val (.int (1 : Int32)), .val (.int (0 : Int32)), .val (.int (1 : Int32)), .val (.int (0 : Int32)), .val (.int (1 : Int32)), .val (.int (1 : Int32)), .unset, .unset, .unset]) at_132 rfl rfl rfl ?_
    refine g_iload C (pc' := 136) at_134 rfl rfl ?_
    refine g_iconst C (pc' := 137) (v := (2 : Int32)) at_136 (by decide) rfl ?_
    refine g_icN C (pc' := 140) at_137 rfl (by decide) rfl ?_
    refine g_iload C (pc' := 142) at_140 rfl rfl ?_
    refine g_ifN C (pc' := 145) at_142 rfl (by decide) rfl ?_
    refine g_iload C (pc' := 147) at_145 rfl rfl ?_
    refine g_ifN C (pc' := 150) at_147 rfl (by decide) rfl ?_
    refine g_iload C (pc' := 152) at_150 rfl rfl ?_
    refine g_ifN C (pc' := 155) at_152 rfl (by decide) rfl ?_
    refine g_iload C (pc' := 157) at_155 rfl rfl ?_
    refine g_iload C (pc' := 159) at_157 rfl rfl ?_
    refine g_ifN C (pc' := 162) at_159 rfl (by decide) rfl ?_
    refine g_iconst C (pc' := 163) (v := (1 : Int32)) at_162 (by decide) rfl ?_
    refine g_goto C (pc' := 167) at_163 (by decide) rfl ?_
    refine g_icN C (pc' := 170) at_167 rfl (by decide) rfl ?_
    refine g_iload C (pc' := 172) at_170 rfl rfl ?_
    refine g_iload C (pc' := 174) at_172 rfl rfl ?_
    refine g_icN C (pc' := 177) at_174 rfl (by decide) rfl ?_
    refine g_iload C (pc' := 179) at_177 rfl rfl ?_
    refine g_iload C (pc' := 181) at_179 rfl rfl ?_
    refine g_icN C (pc' := 184) at_181 rfl (by decide) rfl ?_
    refine g_iload C (pc' := 186) at_184 rfl rfl ?_
    refine g_iload C (pc' := 188) at_186 rfl rfl ?_
    refine g_iconst C (pc' := 189) (v := (2 : Int32)) at_188 (by decide) rfl ?_
    refine g_icN C (pc' := 192) at_189 rfl (by decide) rfl ?_
    refine g_iconst C (pc' := 193) (v := (1 : Int32)) at_192 (by decide) rfl ?_
    refine g_goto C (pc' := 197) at_193 (by decide) rfl ?_
    refine g_icN C (pc' := 200) at_197 rfl (by decide) rfl ?_
    refine g_iconst C (pc' := 201) (v := (1 : Int32)) at_200 (by decide) rfl ?_
    refine g_goto C (pc' := 205) at_201 (by decide) rfl ?_
    exact g_zreturn C at_205 rfl rfl (Nat.le_of_ble_eq_true rfl) (Nat.le_of_ble_eq_true rfl) (rfl)
set_option maxRecDepth 65536 in
set_option maxHeartbeats 40000000 in
theorem comes_1 {Post : Tables → Env → Array Value → State → Outcome → State → Prop} (hpost : ∀ tb e args s v u, (limb_1_1.after args s (.returned v) u = true ∧ limb_1_2.after args s (.returned v) u = true ∧ True) → FrameEnd s (.returned v) u (Jvm.fieldLocs frame_1_writes args s ++ Jvm.arrayLocs frame_1_arrays args s ++ Jvm.staticLocs frame_1_statics s) 16 128 → Post tb e args s (.returned v) u) :
    ArmFor flags0 classFile x code maxLocals ret World_1 tables_1 room_1 Calls_1 rest_1 Pre_1 Post := by
  intro l hfl _ _ p e ha hc hk s m args below hf hA hF happ hP
  obtain ⟨hcalls, hrest, hpre⟩ := hP
  obtain ⟨-, -, -, hnamed, -, -, -, hat⟩ := (Spec.applies_iff hf).mp happ
  obtain ⟨hg, hn⟩ := and_e (Cond.before_iff.mp (show (Jvm.Cond.and given_1 narrow_1).before args s = true from hpre))
  obtain ⟨hga, hgb⟩ := and_e hg
  obtain ⟨hgba, hgbb⟩ := and_e hgb
  obtain ⟨hgbba, hgbbb⟩ := and_e hgbb
  obtain ⟨hgbbba, hgbbbb⟩ := and_e hgbbb
  obtain ⟨hgbbbba, hgbbbbb⟩ := and_e hgbbbb
  obtain ⟨w0, w1, w2, w3, w4, rfl⟩ : ∃ w0 w1 w2 w3 w4 : Value, args = #[w0, w1, w2, w3, w4] := by
    have hs : args.size = 5 := by simpa [Cond.value, given_1] using hga
    obtain ⟨L⟩ := args
    match L, hs with
    | [w0, w1, w2, w3, w4], _ => exact ⟨w0, w1, w2, w3, w4, rfl⟩
  have hw := fun d (hd : d ∈ tables_1) => atoms_spec (ws := Jvm.Cond.code x code maxLocals ret :: tables_1) hat d (List.mem_cons_of_mem _ hd)
  have hfit : Fit s := fun {y c} hc i hi => by
    obtain ⟨ha, rfl⟩ := Array.getElem?_eq_some_iff.mp hc
    have q := List.all_eq_true.mp ((Array.all_eq_true_iff_forall_mem.mp hF) _ (Array.getElem_mem ha)) i (List.mem_range.mpr hi)
    simpa [Array.getElem?_eq_getElem hi] using q
  obtain ⟨i0, ei0⟩ := is_v hgba
  obtain rfl : w0 = (.int i0) := Option.some.inj ei0
  obtain ⟨i1, ei1⟩ := isL_v hgbba
  obtain rfl : w1 = (.long i1) := Option.some.inj ei1
  obtain ⟨i2, ei2⟩ := isL_v hgbbba
  obtain rfl : w2 = (.long i2) := Option.some.inj ei2
  obtain ⟨i3, ei3⟩ := isL_v hgbbbba
  obtain rfl : w3 = (.long i3) := Option.some.inj ei3
  obtain ⟨i4, ei4⟩ := isL_v hgbbbbb
  obtain rfl : w4 = (.long i4) := Option.some.inj ei4
  have S_DRAIN_LIMIT := Sta.start (own_staLong hn) (Or.inr ⟨(wd hw 2 rfl), (wd hw 52 rfl)⟩)
  have H : En s  := S_DRAIN_LIMIT
  obtain ⟨n, o, h1, h2, h3, _, L, rfl, ⟨rfl, N⟩, hq⟩ := rm0 l s _ hw s.heap.size s.heap (Old.start s) H i0 i1 i2 i3 i4  tables_1 p e ha hc hk s m _ below hf ((Spec.applies_iff_loose hf).mp happ).1 ⟨rfl, State.Warmed39.refl s, rfl⟩ trivial
  refine ⟨n, _, h1, h2, h3, hpost _ _ _ _ _ _ ⟨Cond.after_iff.mpr rfl, Cond.after_iff.mpr (eq_i res_at (Term.int_eval (1)) rfl), trivial⟩ ⟨hq.1, hq.2.1, (hq.2.2.sift fun y hy => Or.inr (N y hy)).mono (by decide) (by decide)⟩⟩
theorem main_1_1 : Claimed_1_1 := comes_1 fun _ _ _ _ _ _ h hF => ⟨h.1, hF⟩
theorem main_1_2 : Claimed_1_2 := comes_1 fun _ _ _ _ _ _ h hF => ⟨h.2.1, hF⟩
end Jvm.Pilot.@@N@@
namespace Jvm.Pilot.@@N@@
open Jvm Jvm.ClassFile Sem Op Lib Jvm.Free Jvm.Stand Jvm.Pilot.@@N@@.Jvm.D
/-! MADE BY PROGRAM (witnessworld.py) out of the Statement's table words and the real class files: 9 classes; the members and pool entries that the words name. The judged class is class 1, her method 1. -/
namespace start1
open Jvm.ClassFile
def u (s : String) : CpInfo := .utf8 (stringToUtf16 s)
/-- a pool by its gaps: so many unusable entries, then the entry; so many at the end -/
def gap : Nat → List CpInfo → List CpInfo
  | 0, r => r
  | n + 1, r => .unusable :: gap n r
def poolList (es : List (Nat × CpInfo)) (last : Nat) : List CpInfo := es.foldr (fun e r => gap e.1 (e.2 :: r)) (gap last [])
def pool (es : List (Nat × CpInfo)) (last : Nat) : Array CpInfo := ⟨poolList es last⟩
def fileOf (pool : Array CpInfo) (this : Nat) (attrs : Array Attribute := #[]) (ms : Array MethodInfo := #[]) (fl : Nat := 33) (sup : Nat := 0) (ifs : Array Nat := #[]) (fds : Array FieldInfo := #[]) : ClassFile where
  minorVersion := 0
  majorVersion := 65
  constantPool := pool
  accessFlags := fl
  thisClass := this
  superClass := sup
  interfaces := ifs
  fields := fds
  methods := ms
  attributes := attrs
def plain (name : String) (sup : Option ClassId) : Class where
  name := name
  kind := .ordinary
  loader := none
  accessFlags := 33
  super := sup
  interfaces := #[]
  cf := none
  fields := #[]
  methods := #[]
  instanceTypes := #[]
  staticTypes := #[]
  resolved := #[]
  callSites := []
  init := .initialized
  statics := none
  mirror := none

def pool0 : Array CpInfo := pool [(5, u "<init>"), (0, u "()V"), (1, .class_ 10), (1, u "java/lang/Object")] 113

def k0c0 : Code := { maxStack := 0, maxLocals := 1, code := object_method_1_code, exceptionTable := #[], attributes := #[] }
def k0m0 : Method := { name := "<init>", desc := "()V", sig := { parameters := [], returnType := none }, accessFlags := 1, code := some k0c0 }
/-- java/lang/Object -/
def k0 : Class := { plain "java/lang/Object" none with
  accessFlags := 33
  interfaces := #[]
  cf := some (fileOf pool0 8 #[] #[{ accessFlags := 1, nameIndex := 5, descriptorIndex := 6, attributes := #[] }] 33 0 #[] #[])
  fields := #[]
  methods := #[k0m0]
  instanceTypes := #[]
  staticTypes := #[]
  resolved := Array.replicate 124 none
  statics := none }

def pool1 : Array CpInfo := pool [(2, .class_ 4), (0, .nameAndType 5 6), (0, u "java/lang/Object"), (0, u "<init>"), (0, u "()V"), (0, .class_ 8), (0, u "com/example/tributary/tributary/source/sparql/LettingGo"), (0, .methodref 7 3), (0, .methodref 7 11), (0, .nameAndType 12 13), (0, u "giveUp"), (0, u "()Z"), (0, .methodref 7 15), (0, .nameAndType 16 17), (0, u "letGo"), (0, u "(J)Z"), (0, .long 2000000000), (1, .methodref 7 21), (0, .nameAndType 22 23), (0, u "untilGivenUp"), (0, u "(J)J"), (0, .long 2147483647), (1, .methodref 7 27), (0, .nameAndType 28 17), (0, u "drops"), (0, .methodref 7 30), (0, .nameAndType 31 13), (0, u "givenUp"), (0, .methodref 7 33), (0, .nameAndType 34 13), (0, u "isLetGo"), (0, .long 8192), (1, .class_ 38), (0, u "com/example/tributary/tributary/source/sparql/LettingGoDropsPinLaw"), (2, u "law"), (0, u "(IJJJJ)Z")] 3

def k1m0 : Method := { name := "<init>", desc := "()V", sig := { parameters := [], returnType := none }, accessFlags := 1, code := none }
def k1c1 : Code := { maxStack := 5, maxLocals := 27, code := code, exceptionTable := #[], attributes := #[] }
def k1m1 : Method := { name := "law", desc := "(IJJJJ)Z", sig := { parameters := [.int, .long, .long, .long, .long], returnType := some .boolean }, accessFlags := 9, code := some k1c1 }
/-- com/example/tributary/tributary/source/sparql/LettingGoDropsPinLaw -/
def k1 : Class := { plain "com/example/tributary/tributary/source/sparql/LettingGoDropsPinLaw" (some 0) with
  accessFlags := 49
  interfaces := #[]
  cf := some (fileOf pool1 37 #[] #[{ accessFlags := 1, nameIndex := 5, descriptorIndex := 6, attributes := #[] }, { accessFlags := 9, nameIndex := 41, descriptorIndex := 42, attributes := #[] }] 49 2 #[] #[])
  fields := #[]
  methods := #[k1m0, k1m1]
  instanceTypes := #[]
  staticTypes := #[]
  resolved := Array.replicate 46 none
  statics := none }

def pool2 : Array CpInfo := pool [(1, .methodref 2 3), (0, .class_ 4), (0, .nameAndType 5 6), (0, u "java/lang/Object"), (0, u "<init>"), (0, u "()V"), (0, .fieldref 8 9), (0, .class_ 10), (0, .nameAndType 11 12), (0, u "com/example/tributary/tributary/source/sparql/LettingGo"), (0, u "givenUp"), (0, u "Z"), (0, .fieldref 8 14), (0, .nameAndType 15 12), (0, u "letGo"), (0, .fieldref 8 17), (0, .nameAndType 18 19), (0, u "letGoAt"), (0, u "J"), (0, .fieldref 8 21), (0, .nameAndType 22 19), (0, u "dropped"), (0, .long 8192), (1, .fieldref 8 26), (0, .nameAndType 27 19), (0, u "DRAIN_LIMIT"), (2, u "QUIET"), (9, u "(J)J"), (14, u "CLOSING_READ_LIMIT"), (0, u "I"), (4, u "()Z"), (0, u "isLetGo"), (0, u "(J)Z"), (1, u "giveUp"), (0, u "drops"), (0, u "untilGivenUp")] 5

def k2c0 : Code := { maxStack := 1, maxLocals := 1, code := prog_48_method_1_code, exceptionTable := #[], attributes := #[] }
def k2m0 : Method := { name := "<init>", desc := "()V", sig := { parameters := [], returnType := none }, accessFlags := 0, code := some k2c0 }
def k2c1 : Code := { maxStack := 1, maxLocals := 1, code := prog_48_method_2_code, exceptionTable := #[], attributes := #[] }
def k2m1 : Method := { name := "givenUp", desc := "()Z", sig := { parameters := [], returnType := some .boolean }, accessFlags := 0, code := some k2c1 }
def k2c2 : Code := { maxStack := 1, maxLocals := 1, code := prog_48_method_3_code, exceptionTable := #[], attributes := #[] }
def k2m2 : Method := { name := "isLetGo", desc := "()Z", sig := { parameters := [], returnType := some .boolean }, accessFlags := 0, code := some k2c2 }
def k2c3 : Code := { maxStack := 3, maxLocals := 3, code := prog_48_method_4_code, exceptionTable := #[], attributes := #[] }
def k2m3 : Method := { name := "letGo", desc := "(J)Z", sig := { parameters := [.long], returnType := some .boolean }, accessFlags := 0, code := some k2c3 }
def k2c4 : Code := { maxStack := 2, maxLocals := 1, code := prog_48_method_5_code, exceptionTable := #[], attributes := #[] }
def k2m4 : Method := { name := "giveUp", desc := "()Z", sig := { parameters := [], returnType := some .boolean }, accessFlags := 0, code := some k2c4 }
def k2c5 : Code := { maxStack := 5, maxLocals := 3, code := prog_48_method_6_code, exceptionTable := #[], attributes := #[] }
def k2m5 : Method := { name := "drops", desc := "(J)Z", sig := { parameters := [.long], returnType := some .boolean }, accessFlags := 0, code := some k2c5 }
def k2c6 : Code := { maxStack := 6, maxLocals := 5, code := prog_48_method_7_code, exceptionTable := #[], attributes := #[] }
def k2m6 : Method := { name := "untilGivenUp", desc := "(J)J", sig := { parameters := [.long], returnType := some .long }, accessFlags := 0, code := some k2c6 }
/-- com/example/tributary/tributary/source/sparql/LettingGo -/
def k2 : Class := { plain "com/example/tributary/tributary/source/sparql/LettingGo" (some 0) with
  accessFlags := 48
  interfaces := #[]
  cf := some (fileOf pool2 8 #[] #[{ accessFlags := 0, nameIndex := 5, descriptorIndex := 6, attributes := #[] }, { accessFlags := 0, nameIndex := 11, descriptorIndex := 61, attributes := #[] }, { accessFlags := 0, nameIndex := 62, descriptorIndex := 61, attributes := #[] }, { accessFlags := 0, nameIndex := 15, descriptorIndex := 63, attributes := #[] }, { accessFlags := 0, nameIndex := 65, descriptorIndex := 61, attributes := #[] }, { accessFlags := 0, nameIndex := 66, descriptorIndex := 63, attributes := #[] }, { accessFlags := 0, nameIndex := 67, descriptorIndex := 40, attributes := #[] }] 48 2 #[] #[{ accessFlags := 24, nameIndex := 55, descriptorIndex := 56, attributes := #[] }, { accessFlags := 24, nameIndex := 30, descriptorIndex := 19, attributes := #[] }, { accessFlags := 26, nameIndex := 27, descriptorIndex := 19, attributes := #[] }, { accessFlags := 2, nameIndex := 11, descriptorIndex := 12, attributes := #[] }, { accessFlags := 2, nameIndex := 15, descriptorIndex := 12, attributes := #[] }, { accessFlags := 2, nameIndex := 18, descriptorIndex := 19, attributes := #[] }, { accessFlags := 2, nameIndex := 22, descriptorIndex := 19, attributes := #[] }])
  fields := #[{ name := "CLOSING_READ_LIMIT", type := .int, accessFlags := 24, slot := 0, constantValue := 0 }, { name := "QUIET", type := .long, accessFlags := 24, slot := 1, constantValue := 0 }, { name := "DRAIN_LIMIT", type := .long, accessFlags := 26, slot := 2, constantValue := 0 }, { name := "givenUp", type := .boolean, accessFlags := 2, slot := 0, constantValue := 0 }, { name := "letGo", type := .boolean, accessFlags := 2, slot := 1, constantValue := 0 }, { name := "letGoAt", type := .long, accessFlags := 2, slot := 2, constantValue := 0 }, { name := "dropped", type := .long, accessFlags := 2, slot := 3, constantValue := 0 }]
  methods := #[k2m0, k2m1, k2m2, k2m3, k2m4, k2m5, k2m6]
  instanceTypes := #[.boolean, .boolean, .long, .long]
  staticTypes := #[.int, .long, .long]
  resolved := Array.replicate 73 none
  statics := some 0 }

def pool3 : Array CpInfo := pool [(1, u "java/lang/Cloneable"), (0, .class_ 1), (0, u "java/lang/Object"), (0, .class_ 3)] 3

/-- java/lang/Cloneable -/
def k3 : Class := { plain "java/lang/Cloneable" (some 0) with
  accessFlags := 1537
  interfaces := #[]
  cf := some (fileOf pool3 2 #[] #[] 1537 4 #[] #[])
  fields := #[]
  methods := #[]
  instanceTypes := #[]
  staticTypes := #[]
  resolved := Array.replicate 8 none
  statics := none }

def pool4 : Array CpInfo := pool [(1, u "java/io/Serializable"), (0, .class_ 1), (0, u "java/lang/Object"), (0, .class_ 3)] 3

/-- java/io/Serializable -/
def k4 : Class := { plain "java/io/Serializable" (some 0) with
  accessFlags := 1537
  interfaces := #[]
  cf := some (fileOf pool4 2 #[] #[] 1537 4 #[] #[])
  fields := #[]
  methods := #[]
  instanceTypes := #[]
  staticTypes := #[]
  resolved := Array.replicate 8 none
  statics := none }

/-- the primitive byte -/
def k5 : Class := { plain "byte" none with kind := .primitive 'B', accessFlags := 0x411 }
/-- [B -/
def k6 : Class := { plain "[B" (some 0) with kind := .array 5 .byte, interfaces := #[3, 4], accessFlags := 1041 }

/-- the primitive int -/
def k7 : Class := { plain "int" none with kind := .primitive 'I', accessFlags := 0x411 }
/-- [I -/
def k8 : Class := { plain "[I" (some 0) with kind := .array 7 .int, interfaces := #[3, 4], accessFlags := 1041 }

def heap : Heap := #[{ cls := 2, slots := #[.int 0, .long 0, .long 1000000000], vm := .statics 2 }]
def classes : Array Class := #[k0, k1, k2, k3, k4, k5, k6, k7, k8]
def interned : List (Array UInt16 × Addr) := []
def slotsUsed : Nat := 3
def theMethod : MethodId := ⟨1, 1⟩
def args0 : Array Value := #[.int 2, .long 5, .long 7, .long 9, .long 11]
def aboutOver (below : List Frame) : State where
  vm := { classes := classes, interned := interned.toArray }
  heap := heap
  slotsUsed := slotsUsed
  threads := #[{ frames := .invoking theMethod args0 :: below }]
def below0 : List Frame := [.native { method := ⟨0, 0⟩, args := #[] }]
def about1 : State := aboutOver below0
def p0 : Program := .bare "" "" ""
def e0 : Env := launch0.env 0 0 0
theorem w_frames : about1.frames = Frame.invoking theMethod args0 :: below0 := rfl
set_option maxRecDepth 65536 in
theorem w_args : argsFit about1.vm theMethod args0 = true := by decide +kernel
set_option maxRecDepth 65536 in
theorem w_heap : heapFits about1 = true := by decide +kernel
set_option maxRecDepth 65536 in
theorem w_runnable : about1.curStatus? = some .runnable := by decide +kernel
set_option maxRecDepth 65536 in
theorem w_alone : about1.alone = true := by decide +kernel
set_option maxRecDepth 65536 in
theorem w_named : about1.methodNamed? x = some theMethod := by decide +kernel
set_option maxRecDepth 65536 in
theorem w_hears : about1.hears theMethod below0 = true := by decide +kernel
set_option maxRecDepth 65536 in
theorem w_ripe : about1.ripe theMethod args0 below0 = true := by decide +kernel
theorem w_running : about1.status = .running := rfl
set_option maxRecDepth 65536 in
theorem w_room : about1.hasRoom e0.platform room_1 = true :=
  launch0.hasRoom_least _ room_1 (by decide +kernel) (by decide +kernel) (by decide +kernel) (by decide +kernel) (by decide +kernel) (by decide +kernel)
theorem allAtoms_all (ts : List Jvm.Cond) (a : Array Jvm.Value) (st : Jvm.State) : (allAtoms ts).before a st = ts.all (fun c => c.before a st) := by
  induction ts with
  | nil => rfl
  | cons c t ih =>
    show (Jvm.Cond.and c (allAtoms t)).before a st = _
    rw [Jvm.Cond.before_and, ih, List.all_cons]
def words1 : List Jvm.Cond := Jvm.Cond.code x code maxLocals ret :: tables_1
/-- a 'code' word, met by the world's own term for the bytes: nothing is compared byte by byte -/
theorem code_word {y : MethodName} {bytes : ByteArray} {mx : Nat} {rt : Option FieldType} {a : Array Value} {s : State} {m : MethodId} {meth : Method} {c : Code} (h1 : s.methodNamed? y = some m) (h2 : s.vm.method? m = some meth) (h3 : meth.code = some c) (h4 : c.code = bytes)
    (h5 : (c.maxLocals == mx && c.exceptionTable.isEmpty && decide (c.maxStack ≤ mostOperands) && decide (meth.sig.returnType = rt) && !meth.locks && decide (parseMethodDescriptor y.desc = some meth.sig)) = true) : (Jvm.Cond.code y bytes mx rt).before a s = true := by
  simp only [Bool.and_eq_true, beq_iff_eq, Bool.not_eq_true', decide_eq_true_eq] at h5
  obtain ⟨⟨⟨⟨⟨g1, g2⟩, g3⟩, g4⟩, g5⟩, g6⟩ := h5
  simp [Cond.before, Cond.holds, Cond.value, h1, h2, h3, h4, g1, g2, g3, g4, g5, g6]
def isCode : Jvm.Cond → Bool
  | .code _ _ _ _ => true
  | _ => false
theorem all_split {L : List Jvm.Cond} {P : Jvm.Cond → Bool} (h1 : L.all (fun c => isCode c || P c) = true) (h2 : ∀ c ∈ L.filter isCode, P c = true) : L.all P = true := by
  refine List.all_eq_true.mpr fun c hc => ?_
  have h := List.all_eq_true.mp h1 c hc
  rcases Bool.eq_false_or_eq_true (isCode c) with hi | hi
  · exact h2 c (List.mem_filter.mpr ⟨hc, hi⟩)
  · simpa [hi] using h
set_option maxRecDepth 65536 in
theorem w_c0 : (Jvm.Cond.code x code maxLocals ret).before args0 about1 = true := code_word (m := ⟨1, 1⟩) (meth := k1m1) (c := k1c1) (by decide +kernel) rfl rfl rfl (by decide +kernel)
set_option maxRecDepth 65536 in
theorem w_c1 : (Jvm.Cond.code ({ cls := "com/example/tributary/tributary/source/sparql/LettingGo", name := "<init>", desc := "()V" } : Jvm.MethodName) prog_48_method_1_code (1 : Nat) (Option.none : Option Jvm.ClassFile.FieldType)).before args0 about1 = true := code_word (m := ⟨2, 0⟩) (meth := k2m0) (c := k2c0) (by decide +kernel) rfl rfl rfl (by decide +kernel)
set_option maxRecDepth 65536 in
theorem w_c2 : (Jvm.Cond.code ({ cls := "java/lang/Object", name := "<init>", desc := "()V" } : Jvm.MethodName) object_method_1_code (1 : Nat) (Option.none : Option Jvm.ClassFile.FieldType)).before args0 about1 = true := code_word (m := ⟨0, 0⟩) (meth := k0m0) (c := k0c0) (by decide +kernel) rfl rfl rfl (by decide +kernel)
set_option maxRecDepth 65536 in
theorem w_c3 : (Jvm.Cond.code ({ cls := "com/example/tributary/tributary/source/sparql/LettingGo", name := "drops", desc := "(J)Z" } : Jvm.MethodName) prog_48_method_6_code (3 : Nat) (Option.some Jvm.ClassFile.FieldType.boolean)).before args0 about1 = true := code_word (m := ⟨2, 5⟩) (meth := k2m5) (c := k2c5) (by decide +kernel) rfl rfl rfl (by decide +kernel)
set_option maxRecDepth 65536 in
theorem w_c4 : (Jvm.Cond.code ({ cls := "com/example/tributary/tributary/source/sparql/LettingGo", name := "givenUp", desc := "()Z" } : Jvm.MethodName) prog_48_method_2_code (1 : Nat) (Option.some Jvm.ClassFile.FieldType.boolean)).before args0 about1 = true := code_word (m := ⟨2, 1⟩) (meth := k2m1) (c := k2c1) (by decide +kernel) rfl rfl rfl (by decide +kernel)
set_option maxRecDepth 65536 in
theorem w_c5 : (Jvm.Cond.code ({ cls := "com/example/tributary/tributary/source/sparql/LettingGo", name := "isLetGo", desc := "()Z" } : Jvm.MethodName) prog_48_method_3_code (1 : Nat) (Option.some Jvm.ClassFile.FieldType.boolean)).before args0 about1 = true := code_word (m := ⟨2, 2⟩) (meth := k2m2) (c := k2c2) (by decide +kernel) rfl rfl rfl (by decide +kernel)
set_option maxRecDepth 65536 in
theorem w_c6 : (Jvm.Cond.code ({ cls := "com/example/tributary/tributary/source/sparql/LettingGo", name := "giveUp", desc := "()Z" } : Jvm.MethodName) prog_48_method_5_code (1 : Nat) (Option.some Jvm.ClassFile.FieldType.boolean)).before args0 about1 = true := code_word (m := ⟨2, 4⟩) (meth := k2m4) (c := k2c4) (by decide +kernel) rfl rfl rfl (by decide +kernel)
set_option maxRecDepth 65536 in
theorem w_c7 : (Jvm.Cond.code ({ cls := "com/example/tributary/tributary/source/sparql/LettingGo", name := "letGo", desc := "(J)Z" } : Jvm.MethodName) prog_48_method_4_code (3 : Nat) (Option.some Jvm.ClassFile.FieldType.boolean)).before args0 about1 = true := code_word (m := ⟨2, 3⟩) (meth := k2m3) (c := k2c3) (by decide +kernel) rfl rfl rfl (by decide +kernel)
set_option maxRecDepth 65536 in
theorem w_c8 : (Jvm.Cond.code ({ cls := "com/example/tributary/tributary/source/sparql/LettingGo", name := "untilGivenUp", desc := "(J)J" } : Jvm.MethodName) prog_48_method_7_code (5 : Nat) (Option.some Jvm.ClassFile.FieldType.long)).before args0 about1 = true := code_word (m := ⟨2, 6⟩) (meth := k2m6) (c := k2c6) (by decide +kernel) rfl rfl rfl (by decide +kernel)
def codes1 : List Jvm.Cond := [Jvm.Cond.code x code maxLocals ret, Jvm.Cond.code ({ cls := "com/example/tributary/tributary/source/sparql/LettingGo", name := "<init>", desc := "()V" } : Jvm.MethodName) prog_48_method_1_code (1 : Nat) (Option.none : Option Jvm.ClassFile.FieldType), Jvm.Cond.code ({ cls := "java/lang/Object", name := "<init>", desc := "()V" } : Jvm.MethodName) object_method_1_code (1 : Nat) (Option.none : Option Jvm.ClassFile.FieldType), Jvm.Cond.code ({ cls := "com/example/tributary/tributary/source/sparql/LettingGo", name := "drops", desc := "(J)Z" } : Jvm.MethodName) prog_48_method_6_code (3 : Nat) (Option.some Jvm.ClassFile.FieldType.boolean), Jvm.Cond.code ({ cls := "com/example/tributary/tributary/source/sparql/LettingGo", name := "givenUp", desc := "()Z" } : Jvm.MethodName) prog_48_method_2_code (1 : Nat) (Option.some Jvm.ClassFile.FieldType.boolean), Jvm.Cond.code ({ cls := "com/example/tributary/tributary/source/sparql/LettingGo", name := "isLetGo", desc := "()Z" } : Jvm.MethodName) prog_48_method_3_code (1 : Nat) (Option.some Jvm.ClassFile.FieldType.boolean), Jvm.Cond.code ({ cls := "com/example/tributary/tributary/source/sparql/LettingGo", name := "giveUp", desc := "()Z" } : Jvm.MethodName) prog_48_method_5_code (1 : Nat) (Option.some Jvm.ClassFile.FieldType.boolean), Jvm.Cond.code ({ cls := "com/example/tributary/tributary/source/sparql/LettingGo", name := "letGo", desc := "(J)Z" } : Jvm.MethodName) prog_48_method_4_code (3 : Nat) (Option.some Jvm.ClassFile.FieldType.boolean), Jvm.Cond.code ({ cls := "com/example/tributary/tributary/source/sparql/LettingGo", name := "untilGivenUp", desc := "(J)J" } : Jvm.MethodName) prog_48_method_7_code (5 : Nat) (Option.some Jvm.ClassFile.FieldType.long)]
set_option maxRecDepth 65536 in
theorem codes_eq : words1.filter isCode = codes1 := rfl
theorem w_codes : ∀ c ∈ words1.filter isCode, c.before args0 about1 = true := by
  rw [codes_eq]
  intro c hc
  simp only [codes1, List.mem_cons, List.not_mem_nil, or_false] at hc
  rcases hc with rfl | rfl | rfl | rfl | rfl | rfl | rfl | rfl | rfl
  · exact w_c0
  · exact w_c1
  · exact w_c2
  · exact w_c3
  · exact w_c4
  · exact w_c5
  · exact w_c6
  · exact w_c7
  · exact w_c8
set_option maxRecDepth 65536 in
theorem w_t1 : (words1.take 24).all (fun c => isCode c || c.before args0 about1) = true := by decide +kernel
set_option maxRecDepth 65536 in
theorem w_t2 : ((words1.drop 24).take 24).all (fun c => isCode c || c.before args0 about1) = true := by decide +kernel
set_option maxRecDepth 65536 in
theorem w_t3 : ((words1.drop 24).drop 24).all (fun c => isCode c || c.before args0 about1) = true := by decide +kernel
theorem w_tables : (allAtoms (Jvm.Cond.code x code maxLocals ret :: tables_1)).before args0 about1 = true := by
  rw [allAtoms_all]
  show words1.all (fun c => c.before args0 about1) = true
  refine all_split ?_ w_codes
  rw [← List.take_append_drop 24 words1, List.all_append, w_t1, ← List.take_append_drop 24 (words1.drop 24), List.all_append, w_t2, w_t3]
  rfl
set_option maxRecDepth 65536 in
theorem w_case : (Jvm.Cond.and given_1 narrow_1).before args0 about1 = true := by decide +kernel
theorem w_applies : (headSpec (Jvm.Cond.code x code maxLocals ret :: tables_1) room_1).applies x e0.platform about1 = true :=
  (Spec.applies_iff w_frames).mpr ⟨w_running, w_runnable, w_alone, w_named, w_hears, w_ripe, w_room, w_tables⟩
theorem atStart : AtStart classFile x code maxLocals ret World_1 tables_1 room_1 Calls_1 rest_1 Pre_1 launch0 p0 e0 about1 theMethod args0 below0 :=
  ⟨lists_1, trivial, launch0.admits_env _ _ _, launch0.least_env, fairChoices_fair.cas, fairChoices_fair.clock, w_frames, w_args, w_heap, w_applies, trivial, trivial, w_case⟩
end start1
theorem witness_1 : WitnessClaimed_1 := ⟨start1.p0, start1.e0, start1.about1, start1.theMethod, start1.args0, start1.below0, start1.atStart⟩
end Jvm.Pilot.@@N@@
