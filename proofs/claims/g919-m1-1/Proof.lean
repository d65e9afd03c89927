import JvmDerived
import JvmDerived.Pilot.@@N@@Statement
import JvmDerived.Pilot.@@N@@Code
set_option linter.unusedVariables false
set_option linter.unusedSimpArgs false
namespace Jvm.Own
open Sem ClassFile Op Lib Jvm.Stand Jvm.Free Jvm.LawKit Jvm.RoadKit
/-- what of a walk never changes: program, environment, the invocation's state, method, arguments, frames below, method, code -/
abbrev Ctx : Type := Program × Env × State × MethodId × Array Value × List Frame × Method × Code × (Outcome → State → List Loc → Nat → Nat → Prop)
abbrev Ctx.p (K : Ctx) : Program := K.1
abbrev Ctx.e (K : Ctx) : Env := K.2.1
abbrev Ctx.s (K : Ctx) : State := K.2.2.1
abbrev Ctx.m (K : Ctx) : MethodId := K.2.2.2.1
abbrev Ctx.args (K : Ctx) : Array Value := K.2.2.2.2.1
abbrev Ctx.below (K : Ctx) : List Frame := K.2.2.2.2.2.1
abbrev Ctx.meth (K : Ctx) : Method := K.2.2.2.2.2.2.1
abbrev Ctx.c (K : Ctx) : Code := K.2.2.2.2.2.2.2.1
abbrev Ctx.F (K : Ctx) : Outcome → State → List Loc → Nat → Nat → Prop := K.2.2.2.2.2.2.2.2
/-- the run from S comes to the end of the invocation, in G -/
def Ends (K : Ctx) (S : State) (G : Outcome → State → Prop) : Prop := ∃ s₂ o, Steps K.p.tables K.e K.below S s₂ ∧ s₂.status = .running ∧ Ended s₂ K.below o ∧ G o s₂
theorem Ends.step {K : Ctx} {S S' : State} {G : Outcome → State → Prop} (f : ∀ t, Steps K.p.tables K.e K.below S' t → Steps K.p.tables K.e K.below S t) (h : Ends K S' G) : Ends K S G := by
  obtain ⟨a, b, c, d⟩ := h
  exact ⟨a, b, f _ c, d⟩
/-- from every state that stands in this walk with the heap h, cc cells and ss slots made, the frame (pc, ls, st) runs to a return in Q -/
def W (l : Launch) (Z : State) (R : Room) (K : Ctx) (Q : Option Value → Heap → Prop) (h : Heap) (cc ss pc : Nat) (ls : Array Slot) (st : List Value) : Prop :=
  ∀ (T : State) (L : List Loc), Stand K.p l K.e R K.s K.m K.args K.below K.meth K.c T L cc ss → Fr Z.heap.size L → T.heap = h →
    Ends K (T.setTop (mkF K.m pc ls st)) (fun o U => ∃ v L, o = .returned v ∧ (Q v U.heap ∧ Fr Z.heap.size L) ∧ K.F o U L R.cells R.slots)
def Ok (Z : State) (K : Ctx) (y : MethodName) (code : ByteArray) (maxL : Nat) (ret : Option FieldType) : Prop :=
  K.p.tables.exec = Jvm.exec ∧ Z.Warmed39 K.s.vm ∧ K.c.code = code ∧ K.c.maxLocals = maxL ∧ K.s.vm.findClass y.cls = some K.m.cls ∧ K.meth.sig.returnType = ret ∧ K.meth.name = y.name ∧ K.meth.locks = false ∧ ∀ o U L c n, FrameEnd K.s o U L c n → K.F o U L c n
/-- a callee's contract: at the heap h0, with the arguments as, it returns in Q -/
def Con (l : Launch) (Z : State) (y : MethodName) (code : ByteArray) (maxL : Nat) (ret : Option FieldType) (rm : Room) (as : Array Value) (h0 : Heap) (Q : Option Value → Heap → Prop) : Prop :=
  ∀ ws : List Jvm.Cond, MetFree l y (head1 (Jvm.Cond.code y code maxL ret :: ws) rm) (fun a U => a = as ∧ Z.Warmed39 U.vm ∧ U.heap = h0) (fun _ _ _ _ _ => True) (fun _ U o U' => ∃ v L, o = .returned v ∧ (Q v U'.heap ∧ Fr Z.heap.size L) ∧ FrameEnd U o U' L rm.cells rm.slots)
def cdT : ClassFile.Cond → Int32 → Int32 → Prop
  | .eq, x, y => x = y
  | .ne, x, y => ¬ (x = y)
  | .lt, x, y => x < y
  | .ge, x, y => ¬ (x < y)
  | .gt, x, y => y < x
  | .le, x, y => ¬ (y < x)
def cdF : ClassFile.Cond → Int32 → Int32 → Prop
  | .eq, x, y => ¬ (x = y)
  | .ne, x, y => x = y
  | .lt, x, y => ¬ (x < y)
  | .ge, x, y => x < y
  | .gt, x, y => ¬ (y < x)
  | .le, x, y => y < x
theorem cd_t {cd : ClassFile.Cond} {x y : Int32} (h : cdT cd x y) : if_icmp.holds cd x y = true := by
  cases cd
  · exact (teq h).1
  · exact (feq h).2
  · exact (tlt h).1
  · exact (flt h).2.1
  · exact (tlt h).2.2.1
  · exact (flt h).2.2.2
theorem cd_f {cd : ClassFile.Cond} {x y : Int32} (h : cdF cd x y) : if_icmp.holds cd x y = false := by
  cases cd
  · exact (feq h).1
  · exact (teq h).2
  · exact (flt h).1
  · exact (tlt h).2.1
  · exact (flt h).2.2.1
  · exact (tlt h).2.2.2
theorem cd_or (cd : ClassFile.Cond) (x y : Int32) : cdT cd x y ∨ cdF cd x y := by
  cases cd
  · exact Classical.em _
  · exact (Classical.em _).symm
  · exact Classical.em _
  · exact (Classical.em _).symm
  · exact Classical.em _
  · exact (Classical.em _).symm
section Walk
variable {l : Launch} {Z : State} {R : Room} {K : Ctx} {Q : Option Value → Heap → Prop} {h : Heap} {cc ss pc : Nat} {ls : Array Slot} {st : List Value} {y : MethodName} {code : ByteArray} {maxL : Nat} {ret : Option FieldType} {a0 : Array Value} {ts : List Jvm.Cond}
theorem Con.of {rm : Room} {as : Array Value} {h0 : Heap} (hp : plainFor y = true) (ls : Array Slot) (hf : ∀ m, entryFrame m as maxL = mkF m 0 ls []) (hW : ∀ K : Ctx, Ok Z K y code maxL ret → W l Z rm K Q h0 0 0 0 ls []) : Con l Z y code maxL ret rm as h0 Q := by
  intro ws
  refine MetFree.of_bodySF hp hisR ?_
  intro p e s m args below meth c s₁ Bd hml0 hP hK
  obtain ⟨rfl, hZ, hh⟩ := hP
  have e0 : s₁.heap = h0 := by rw [← hh, Bd.state]; rfl
  have X0 : Stand p l e rm s m args below meth c s₁ [] 0 0 := Stand.of_body Bd
  rw [hf]
  exact hW (p, e, s, m, args, below, meth, c, FrameEnd s) ⟨Bd.exec, hZ, Bd.bytes, hml0, findClass_of_methodNamed Bd.named, Bd.returns, (name_of_methodNamed Bd.named Bd.method).1, Bd.notSynchronized, fun _ _ _ _ _ q => q⟩ s₁ [] X0 (Fr.nil _) e0
theorem W.more {cc' ss' : Nat} (hc : cc ≤ cc') (hs : ss ≤ ss') (H : W l Z R K Q h cc' ss' pc ls st) : W l Z R K Q h cc ss pc ls st := fun T L X N e => H T L (X.more hc hs) N e

theorem W.iload (ok : Ok Z K y code maxL ret) {k : Nat} {v : Int32} (hd : decode code pc = .ok (.iload k, 2)) (pc' : Nat) (hl : ls[k]? = some (.val (.int v))) (H : W l Z R K Q h cc ss pc' ls (.int v :: st)) (hp : pc + 2 = pc' := by rfl) : W l Z R K Q h cc ss pc ls (st) := by
  subst hp
  exact fun T L X N e => Ends.step (fun t k => XS.iload X.here ok.1 rfl (hb ok.2.2.1 hd) hl k) (H T L X N e)
theorem W.lload (ok : Ok Z K y code maxL ret) {k : Nat} {v : Int64} (hd : decode code pc = .ok (.lload k, 2)) (pc' : Nat) (hl : ls[k]? = some (.val (.long v))) (H : W l Z R K Q h cc ss pc' ls (.long v :: st)) (hp : pc + 2 = pc' := by rfl) : W l Z R K Q h cc ss pc ls (st) := by
  subst hp
  exact fun T L X N e => Ends.step (fun t k => XS.lload X.here ok.1 rfl (hb ok.2.2.1 hd) hl k) (H T L X N e)
theorem W.aload (ok : Ok Z K y code maxL ret) {k : Nat} {v : Value} (hd : decode code pc = .ok (.aload k, 2)) (pc' : Nat) (hl : ls[k]? = some (.val v)) (hv : v.isRef = true) (H : W l Z R K Q h cc ss pc' ls (v :: st)) (hp : pc + 2 = pc' := by rfl) : W l Z R K Q h cc ss pc ls (st) := by
  subst hp
  exact fun T L X N e => Ends.step (fun t k => XS.aload X.here ok.1 rfl (hb ok.2.2.1 hd) hl hv k) (H T L X N e)
theorem W.istore (ok : Ok Z K y code maxL ret) {k : Nat} {v : Int32} (hd : decode code pc = .ok (.istore k, 2)) (pc' : Nat) (ls' : Array Slot) (hl : storeLocals ls k (.int v) = some ls') (H : W l Z R K Q h cc ss pc' ls' (st)) (hp : pc + 2 = pc' := by rfl) : W l Z R K Q h cc ss pc ls (.int v :: st) := by
  subst hp
  exact fun T L X N e => Ends.step (fun t k => XS.istore X.here ok.1 rfl (hb ok.2.2.1 hd) rfl hl k) (H T L X N e)
theorem W.lstore (ok : Ok Z K y code maxL ret) {k : Nat} {v : Int64} (hd : decode code pc = .ok (.lstore k, 2)) (pc' : Nat) (ls' : Array Slot) (hl : storeLocals ls k (.long v) = some ls') (H : W l Z R K Q h cc ss pc' ls' (st)) (hp : pc + 2 = pc' := by rfl) : W l Z R K Q h cc ss pc ls (.long v :: st) := by
  subst hp
  exact fun T L X N e => Ends.step (fun t k => XS.lstore X.here ok.1 rfl (hb ok.2.2.1 hd) rfl hl k) (H T L X N e)
theorem W.astore (ok : Ok Z K y code maxL ret) {k : Nat} {v : Value} (hd : decode code pc = .ok (.astore k, 2)) (pc' : Nat) (ls' : Array Slot) (hv : v.isRef = true) (hl : storeLocals ls k v = some ls') (H : W l Z R K Q h cc ss pc' ls' (st)) (hp : pc + 2 = pc' := by rfl) : W l Z R K Q h cc ss pc ls (v :: st) := by
  subst hp
  exact fun T L X N e => Ends.step (fun t k => XS.astore X.here ok.1 rfl (hb ok.2.2.1 hd) rfl hv hl k) (H T L X N e)
theorem W.iloadN (ok : Ok Z K y code maxL ret) {k : Fin 4} {v : Int32} (hd : decode code pc = .ok (.iload_n k, 1)) (pc' : Nat) (hl : ls[k.val]? = some (.val (.int v))) (H : W l Z R K Q h cc ss pc' ls (.int v :: st)) (hp : pc + 1 = pc' := by rfl) : W l Z R K Q h cc ss pc ls (st) := by
  subst hp
  exact fun T L X N e => Ends.step (fun t k => XS.iloadN X.here ok.1 rfl (hb ok.2.2.1 hd) hl k) (H T L X N e)
theorem W.lloadN (ok : Ok Z K y code maxL ret) {k : Fin 4} {v : Int64} (hd : decode code pc = .ok (.lload_n k, 1)) (pc' : Nat) (hl : ls[k.val]? = some (.val (.long v))) (H : W l Z R K Q h cc ss pc' ls (.long v :: st)) (hp : pc + 1 = pc' := by rfl) : W l Z R K Q h cc ss pc ls (st) := by
  subst hp
  exact fun T L X N e => Ends.step (fun t k => XS.lloadN X.here ok.1 rfl (hb ok.2.2.1 hd) hl k) (H T L X N e)
theorem W.aloadN (ok : Ok Z K y code maxL ret) {k : Fin 4} {v : Value} (hd : decode code pc = .ok (.aload_n k, 1)) (pc' : Nat) (hl : ls[k.val]? = some (.val v)) (hv : v.isRef = true) (H : W l Z R K Q h cc ss pc' ls (v :: st)) (hp : pc + 1 = pc' := by rfl) : W l Z R K Q h cc ss pc ls (st) := by
  subst hp
  exact fun T L X N e => Ends.step (fun t k => XS.aloadN X.here ok.1 rfl (hb ok.2.2.1 hd) hl hv k) (H T L X N e)
theorem W.istoreN (ok : Ok Z K y code maxL ret) {k : Fin 4} {v : Int32} (hd : decode code pc = .ok (.istore_n k, 1)) (pc' : Nat) (ls' : Array Slot) (hl : storeLocals ls k.val (.int v) = some ls') (H : W l Z R K Q h cc ss pc' ls' (st)) (hp : pc + 1 = pc' := by rfl) : W l Z R K Q h cc ss pc ls (.int v :: st) := by
  subst hp
  exact fun T L X N e => Ends.step (fun t k => XS.istoreN X.here ok.1 rfl (hb ok.2.2.1 hd) rfl hl k) (H T L X N e)
theorem W.lstoreN (ok : Ok Z K y code maxL ret) {k : Fin 4} {v : Int64} (hd : decode code pc = .ok (.lstore_n k, 1)) (pc' : Nat) (ls' : Array Slot) (hl : storeLocals ls k.val (.long v) = some ls') (H : W l Z R K Q h cc ss pc' ls' (st)) (hp : pc + 1 = pc' := by rfl) : W l Z R K Q h cc ss pc ls (.long v :: st) := by
  subst hp
  exact fun T L X N e => Ends.step (fun t k => XS.lstoreN X.here ok.1 rfl (hb ok.2.2.1 hd) rfl hl k) (H T L X N e)
theorem W.astoreN (ok : Ok Z K y code maxL ret) {k : Fin 4} {v : Value} (hd : decode code pc = .ok (.astore_n k, 1)) (pc' : Nat) (ls' : Array Slot) (hv : v.isRef = true) (hl : storeLocals ls k.val v = some ls') (H : W l Z R K Q h cc ss pc' ls' (st)) (hp : pc + 1 = pc' := by rfl) : W l Z R K Q h cc ss pc ls (v :: st) := by
  subst hp
  exact fun T L X N e => Ends.step (fun t k => XS.astoreN X.here ok.1 rfl (hb ok.2.2.1 hd) rfl hv hl k) (H T L X N e)
theorem W.iconst (ok : Ok Z K y code maxL ret) {i : Int} (hd : decode code pc = .ok (.iconst i, 1)) (pc' : Nat) (v : Int32) (hv : Int32.ofInt i = v) (H : W l Z R K Q h cc ss pc' ls (.int v :: st)) (hp : pc + 1 = pc' := by rfl) : W l Z R K Q h cc ss pc ls (st) := by
  subst hp
  subst hv
  exact fun T L X N e => Ends.step (fun t k => XS.iconst X.here ok.1 rfl (hb ok.2.2.1 hd)  k) (H T L X N e)
theorem W.bipush (ok : Ok Z K y code maxL ret) {i : Int} (hd : decode code pc = .ok (.bipush i, 2)) (pc' : Nat) (v : Int32) (hv : (Int8.ofInt i).toInt32 = v) (H : W l Z R K Q h cc ss pc' ls (.int v :: st)) (hp : pc + 2 = pc' := by rfl) : W l Z R K Q h cc ss pc ls (st) := by
  subst hp
  subst hv
  exact fun T L X N e => Ends.step (fun t k => XS.bipush X.here ok.1 rfl (hb ok.2.2.1 hd)  k) (H T L X N e)
theorem W.sipush (ok : Ok Z K y code maxL ret) {i : Int} (hd : decode code pc = .ok (.sipush i, 3)) (pc' : Nat) (v : Int32) (hv : (Int16.ofInt i).toInt32 = v) (H : W l Z R K Q h cc ss pc' ls (.int v :: st)) (hp : pc + 3 = pc' := by rfl) : W l Z R K Q h cc ss pc ls (st) := by
  subst hp
  subst hv
  exact fun T L X N e => Ends.step (fun t k => XS.sipush X.here ok.1 rfl (hb ok.2.2.1 hd)  k) (H T L X N e)
theorem W.lconst (ok : Ok Z K y code maxL ret) {i : Fin 2} (hd : decode code pc = .ok (.lconst i, 1)) (pc' : Nat) (v : Int64) (hv : Int64.ofNat i = v) (H : W l Z R K Q h cc ss pc' ls (.long v :: st)) (hp : pc + 1 = pc' := by rfl) : W l Z R K Q h cc ss pc ls (st) := by
  subst hp
  subst hv
  exact fun T L X N e => Ends.step (fun t k => XS.lconst X.here ok.1 rfl (hb ok.2.2.1 hd)  k) (H T L X N e)
theorem W.aconstNull (ok : Ok Z K y code maxL ret)  (hd : decode code pc = .ok (.aconst_null, 1)) (pc' : Nat) (H : W l Z R K Q h cc ss pc' ls (.null :: st)) (hp : pc + 1 = pc' := by rfl) : W l Z R K Q h cc ss pc ls (st) := by
  subst hp
  exact fun T L X N e => Ends.step (fun t k => XS.aconstNull X.here ok.1 rfl (hb ok.2.2.1 hd)  k) (H T L X N e)
theorem W.iadd (ok : Ok Z K y code maxL ret) {x z : Int32} (hd : decode code pc = .ok (.iadd, 1)) (pc' : Nat) (H : W l Z R K Q h cc ss pc' ls (.int (x + z) :: st)) (hp : pc + 1 = pc' := by rfl) : W l Z R K Q h cc ss pc ls (.int z :: .int x :: st) := by
  subst hp
  exact fun T L X N e => Ends.step (fun t k => XS.iadd X.here ok.1 rfl (hb ok.2.2.1 hd) rfl k) (H T L X N e)
theorem W.iaddV (ok : Ok Z K y code maxL ret) {x z : Int32} (hd : decode code pc = .ok (.iadd, 1)) (pc' : Nat) (v : Int32) (hv : x + z = v) (H : W l Z R K Q h cc ss pc' ls (.int v :: st)) (hp : pc + 1 = pc' := by rfl) : W l Z R K Q h cc ss pc ls (.int z :: .int x :: st) := by
  subst hp
  subst hv
  exact fun T L X N e => Ends.step (fun t k => XS.iadd X.here ok.1 rfl (hb ok.2.2.1 hd) rfl k) (H T L X N e)
theorem W.isub (ok : Ok Z K y code maxL ret) {x z : Int32} (hd : decode code pc = .ok (.isub, 1)) (pc' : Nat) (H : W l Z R K Q h cc ss pc' ls (.int (x - z) :: st)) (hp : pc + 1 = pc' := by rfl) : W l Z R K Q h cc ss pc ls (.int z :: .int x :: st) := by
  subst hp
  exact fun T L X N e => Ends.step (fun t k => XS.isub X.here ok.1 rfl (hb ok.2.2.1 hd) rfl k) (H T L X N e)
theorem W.isubV (ok : Ok Z K y code maxL ret) {x z : Int32} (hd : decode code pc = .ok (.isub, 1)) (pc' : Nat) (v : Int32) (hv : x - z = v) (H : W l Z R K Q h cc ss pc' ls (.int v :: st)) (hp : pc + 1 = pc' := by rfl) : W l Z R K Q h cc ss pc ls (.int z :: .int x :: st) := by
  subst hp
  subst hv
  exact fun T L X N e => Ends.step (fun t k => XS.isub X.here ok.1 rfl (hb ok.2.2.1 hd) rfl k) (H T L X N e)
theorem W.imul (ok : Ok Z K y code maxL ret) {x z : Int32} (hd : decode code pc = .ok (.imul, 1)) (pc' : Nat) (H : W l Z R K Q h cc ss pc' ls (.int (x * z) :: st)) (hp : pc + 1 = pc' := by rfl) : W l Z R K Q h cc ss pc ls (.int z :: .int x :: st) := by
  subst hp
  exact fun T L X N e => Ends.step (fun t k => XS.imul X.here ok.1 rfl (hb ok.2.2.1 hd) rfl k) (H T L X N e)
theorem W.imulV (ok : Ok Z K y code maxL ret) {x z : Int32} (hd : decode code pc = .ok (.imul, 1)) (pc' : Nat) (v : Int32) (hv : x * z = v) (H : W l Z R K Q h cc ss pc' ls (.int v :: st)) (hp : pc + 1 = pc' := by rfl) : W l Z R K Q h cc ss pc ls (.int z :: .int x :: st) := by
  subst hp
  subst hv
  exact fun T L X N e => Ends.step (fun t k => XS.imul X.here ok.1 rfl (hb ok.2.2.1 hd) rfl k) (H T L X N e)
theorem W.iand (ok : Ok Z K y code maxL ret) {x z : Int32} (hd : decode code pc = .ok (.iand, 1)) (pc' : Nat) (H : W l Z R K Q h cc ss pc' ls (.int (x &&& z) :: st)) (hp : pc + 1 = pc' := by rfl) : W l Z R K Q h cc ss pc ls (.int z :: .int x :: st) := by
  subst hp
  exact fun T L X N e => Ends.step (fun t k => XS.iand X.here ok.1 rfl (hb ok.2.2.1 hd) rfl k) (H T L X N e)
theorem W.iandV (ok : Ok Z K y code maxL ret) {x z : Int32} (hd : decode code pc = .ok (.iand, 1)) (pc' : Nat) (v : Int32) (hv : x &&& z = v) (H : W l Z R K Q h cc ss pc' ls (.int v :: st)) (hp : pc + 1 = pc' := by rfl) : W l Z R K Q h cc ss pc ls (.int z :: .int x :: st) := by
  subst hp
  subst hv
  exact fun T L X N e => Ends.step (fun t k => XS.iand X.here ok.1 rfl (hb ok.2.2.1 hd) rfl k) (H T L X N e)
theorem W.ior (ok : Ok Z K y code maxL ret) {x z : Int32} (hd : decode code pc = .ok (.ior, 1)) (pc' : Nat) (H : W l Z R K Q h cc ss pc' ls (.int (x ||| z) :: st)) (hp : pc + 1 = pc' := by rfl) : W l Z R K Q h cc ss pc ls (.int z :: .int x :: st) := by
  subst hp
  exact fun T L X N e => Ends.step (fun t k => XS.ior X.here ok.1 rfl (hb ok.2.2.1 hd) rfl k) (H T L X N e)
theorem W.iorV (ok : Ok Z K y code maxL ret) {x z : Int32} (hd : decode code pc = .ok (.ior, 1)) (pc' : Nat) (v : Int32) (hv : x ||| z = v) (H : W l Z R K Q h cc ss pc' ls (.int v :: st)) (hp : pc + 1 = pc' := by rfl) : W l Z R K Q h cc ss pc ls (.int z :: .int x :: st) := by
  subst hp
  subst hv
  exact fun T L X N e => Ends.step (fun t k => XS.ior X.here ok.1 rfl (hb ok.2.2.1 hd) rfl k) (H T L X N e)
theorem W.ixor (ok : Ok Z K y code maxL ret) {x z : Int32} (hd : decode code pc = .ok (.ixor, 1)) (pc' : Nat) (H : W l Z R K Q h cc ss pc' ls (.int (x ^^^ z) :: st)) (hp : pc + 1 = pc' := by rfl) : W l Z R K Q h cc ss pc ls (.int z :: .int x :: st) := by
  subst hp
  exact fun T L X N e => Ends.step (fun t k => XS.ixor X.here ok.1 rfl (hb ok.2.2.1 hd) rfl k) (H T L X N e)
theorem W.ixorV (ok : Ok Z K y code maxL ret) {x z : Int32} (hd : decode code pc = .ok (.ixor, 1)) (pc' : Nat) (v : Int32) (hv : x ^^^ z = v) (H : W l Z R K Q h cc ss pc' ls (.int v :: st)) (hp : pc + 1 = pc' := by rfl) : W l Z R K Q h cc ss pc ls (.int z :: .int x :: st) := by
  subst hp
  subst hv
  exact fun T L X N e => Ends.step (fun t k => XS.ixor X.here ok.1 rfl (hb ok.2.2.1 hd) rfl k) (H T L X N e)
theorem W.ishl (ok : Ok Z K y code maxL ret) {x z : Int32} (hd : decode code pc = .ok (.ishl, 1)) (pc' : Nat) (H : W l Z R K Q h cc ss pc' ls (.int (x <<< (z &&& 31)) :: st)) (hp : pc + 1 = pc' := by rfl) : W l Z R K Q h cc ss pc ls (.int z :: .int x :: st) := by
  subst hp
  exact fun T L X N e => Ends.step (fun t k => XS.ishl X.here ok.1 rfl (hb ok.2.2.1 hd) rfl k) (H T L X N e)
theorem W.ishlV (ok : Ok Z K y code maxL ret) {x z : Int32} (hd : decode code pc = .ok (.ishl, 1)) (pc' : Nat) (v : Int32) (hv : x <<< (z &&& 31) = v) (H : W l Z R K Q h cc ss pc' ls (.int v :: st)) (hp : pc + 1 = pc' := by rfl) : W l Z R K Q h cc ss pc ls (.int z :: .int x :: st) := by
  subst hp
  subst hv
  exact fun T L X N e => Ends.step (fun t k => XS.ishl X.here ok.1 rfl (hb ok.2.2.1 hd) rfl k) (H T L X N e)
theorem W.ishr (ok : Ok Z K y code maxL ret) {x z : Int32} (hd : decode code pc = .ok (.ishr, 1)) (pc' : Nat) (H : W l Z R K Q h cc ss pc' ls (.int (x >>> (z &&& 31)) :: st)) (hp : pc + 1 = pc' := by rfl) : W l Z R K Q h cc ss pc ls (.int z :: .int x :: st) := by
  subst hp
  exact fun T L X N e => Ends.step (fun t k => XS.ishr X.here ok.1 rfl (hb ok.2.2.1 hd) rfl k) (H T L X N e)
theorem W.ishrV (ok : Ok Z K y code maxL ret) {x z : Int32} (hd : decode code pc = .ok (.ishr, 1)) (pc' : Nat) (v : Int32) (hv : x >>> (z &&& 31) = v) (H : W l Z R K Q h cc ss pc' ls (.int v :: st)) (hp : pc + 1 = pc' := by rfl) : W l Z R K Q h cc ss pc ls (.int z :: .int x :: st) := by
  subst hp
  subst hv
  exact fun T L X N e => Ends.step (fun t k => XS.ishr X.here ok.1 rfl (hb ok.2.2.1 hd) rfl k) (H T L X N e)
theorem W.iushr (ok : Ok Z K y code maxL ret) {x z : Int32} (hd : decode code pc = .ok (.iushr, 1)) (pc' : Nat) (H : W l Z R K Q h cc ss pc' ls (.int ((x.toUInt32 >>> (z &&& 31).toUInt32).toInt32) :: st)) (hp : pc + 1 = pc' := by rfl) : W l Z R K Q h cc ss pc ls (.int z :: .int x :: st) := by
  subst hp
  exact fun T L X N e => Ends.step (fun t k => XS.iushr X.here ok.1 rfl (hb ok.2.2.1 hd) rfl k) (H T L X N e)
theorem W.iushrV (ok : Ok Z K y code maxL ret) {x z : Int32} (hd : decode code pc = .ok (.iushr, 1)) (pc' : Nat) (v : Int32) (hv : (x.toUInt32 >>> (z &&& 31).toUInt32).toInt32 = v) (H : W l Z R K Q h cc ss pc' ls (.int v :: st)) (hp : pc + 1 = pc' := by rfl) : W l Z R K Q h cc ss pc ls (.int z :: .int x :: st) := by
  subst hp
  subst hv
  exact fun T L X N e => Ends.step (fun t k => XS.iushr X.here ok.1 rfl (hb ok.2.2.1 hd) rfl k) (H T L X N e)
theorem W.ladd (ok : Ok Z K y code maxL ret) {x z : Int64} (hd : decode code pc = .ok (.ladd, 1)) (pc' : Nat) (H : W l Z R K Q h cc ss pc' ls (.long (x + z) :: st)) (hp : pc + 1 = pc' := by rfl) : W l Z R K Q h cc ss pc ls (.long z :: .long x :: st) := by
  subst hp
  exact fun T L X N e => Ends.step (fun t k => XS.ladd X.here ok.1 rfl (hb ok.2.2.1 hd) rfl k) (H T L X N e)
theorem W.lsub (ok : Ok Z K y code maxL ret) {x z : Int64} (hd : decode code pc = .ok (.lsub, 1)) (pc' : Nat) (H : W l Z R K Q h cc ss pc' ls (.long (x - z) :: st)) (hp : pc + 1 = pc' := by rfl) : W l Z R K Q h cc ss pc ls (.long z :: .long x :: st) := by
  subst hp
  exact fun T L X N e => Ends.step (fun t k => XS.lsub X.here ok.1 rfl (hb ok.2.2.1 hd) rfl k) (H T L X N e)
theorem W.lmul (ok : Ok Z K y code maxL ret) {x z : Int64} (hd : decode code pc = .ok (.lmul, 1)) (pc' : Nat) (H : W l Z R K Q h cc ss pc' ls (.long (x * z) :: st)) (hp : pc + 1 = pc' := by rfl) : W l Z R K Q h cc ss pc ls (.long z :: .long x :: st) := by
  subst hp
  exact fun T L X N e => Ends.step (fun t k => XS.lmul X.here ok.1 rfl (hb ok.2.2.1 hd) rfl k) (H T L X N e)
theorem W.land (ok : Ok Z K y code maxL ret) {x z : Int64} (hd : decode code pc = .ok (.land, 1)) (pc' : Nat) (H : W l Z R K Q h cc ss pc' ls (.long (x &&& z) :: st)) (hp : pc + 1 = pc' := by rfl) : W l Z R K Q h cc ss pc ls (.long z :: .long x :: st) := by
  subst hp
  exact fun T L X N e => Ends.step (fun t k => XS.land X.here ok.1 rfl (hb ok.2.2.1 hd) rfl k) (H T L X N e)
theorem W.lor (ok : Ok Z K y code maxL ret) {x z : Int64} (hd : decode code pc = .ok (.lor, 1)) (pc' : Nat) (H : W l Z R K Q h cc ss pc' ls (.long (x ||| z) :: st)) (hp : pc + 1 = pc' := by rfl) : W l Z R K Q h cc ss pc ls (.long z :: .long x :: st) := by
  subst hp
  exact fun T L X N e => Ends.step (fun t k => XS.lor X.here ok.1 rfl (hb ok.2.2.1 hd) rfl k) (H T L X N e)
theorem W.lxor (ok : Ok Z K y code maxL ret) {x z : Int64} (hd : decode code pc = .ok (.lxor, 1)) (pc' : Nat) (H : W l Z R K Q h cc ss pc' ls (.long (x ^^^ z) :: st)) (hp : pc + 1 = pc' := by rfl) : W l Z R K Q h cc ss pc ls (.long z :: .long x :: st) := by
  subst hp
  exact fun T L X N e => Ends.step (fun t k => XS.lxor X.here ok.1 rfl (hb ok.2.2.1 hd) rfl k) (H T L X N e)
theorem W.lshl (ok : Ok Z K y code maxL ret) {x : Int64} {z : Int32} (hd : decode code pc = .ok (.lshl, 1)) (pc' : Nat) (H : W l Z R K Q h cc ss pc' ls (.long (x <<< (z &&& 0x3f).toInt64) :: st)) (hp : pc + 1 = pc' := by rfl) : W l Z R K Q h cc ss pc ls (.int z :: .long x :: st) := by
  subst hp
  exact fun T L X N e => Ends.step (fun t k => XS.lshl X.here ok.1 rfl (hb ok.2.2.1 hd) rfl k) (H T L X N e)
theorem W.lshr (ok : Ok Z K y code maxL ret) {x : Int64} {z : Int32} (hd : decode code pc = .ok (.lshr, 1)) (pc' : Nat) (H : W l Z R K Q h cc ss pc' ls (.long (x >>> (z &&& 0x3f).toInt64) :: st)) (hp : pc + 1 = pc' := by rfl) : W l Z R K Q h cc ss pc ls (.int z :: .long x :: st) := by
  subst hp
  exact fun T L X N e => Ends.step (fun t k => XS.lshr X.here ok.1 rfl (hb ok.2.2.1 hd) rfl k) (H T L X N e)
theorem W.lushr (ok : Ok Z K y code maxL ret) {x : Int64} {z : Int32} (hd : decode code pc = .ok (.lushr, 1)) (pc' : Nat) (H : W l Z R K Q h cc ss pc' ls (.long ((x.toUInt64 >>> (z &&& 0x3f).toInt64.toUInt64).toInt64) :: st)) (hp : pc + 1 = pc' := by rfl) : W l Z R K Q h cc ss pc ls (.int z :: .long x :: st) := by
  subst hp
  exact fun T L X N e => Ends.step (fun t k => XS.lushr X.here ok.1 rfl (hb ok.2.2.1 hd) rfl k) (H T L X N e)
theorem W.idiv (ok : Ok Z K y code maxL ret) {x z : Int32} (hd : decode code pc = .ok (.idiv, 1)) (pc' : Nat) (hz : z ≠ 0) (H : W l Z R K Q h cc ss pc' ls (.int (x / z) :: st)) (hp : pc + 1 = pc' := by rfl) : W l Z R K Q h cc ss pc ls (.int z :: .int x :: st) := by
  subst hp
  exact fun T L X N e => Ends.step (fun t k => XS.idiv X.here ok.1 rfl (hb ok.2.2.1 hd) rfl hz k) (H T L X N e)
theorem W.irem (ok : Ok Z K y code maxL ret) {x z : Int32} (hd : decode code pc = .ok (.irem, 1)) (pc' : Nat) (hz : z ≠ 0) (H : W l Z R K Q h cc ss pc' ls (.int (x % z) :: st)) (hp : pc + 1 = pc' := by rfl) : W l Z R K Q h cc ss pc ls (.int z :: .int x :: st) := by
  subst hp
  exact fun T L X N e => Ends.step (fun t k => iremM X ok.1 rfl (hb ok.2.2.1 hd) rfl hz k) (H T L X N e)
theorem W.ineg (ok : Ok Z K y code maxL ret) {x : Int32} (hd : decode code pc = .ok (.ineg, 1)) (pc' : Nat) (H : W l Z R K Q h cc ss pc' ls (.int (-x) :: st)) (hp : pc + 1 = pc' := by rfl) : W l Z R K Q h cc ss pc ls (.int x :: st) := by
  subst hp
  exact fun T L X N e => Ends.step (fun t k => XS.ineg X.here ok.1 rfl (hb ok.2.2.1 hd) rfl k) (H T L X N e)
theorem W.inegV (ok : Ok Z K y code maxL ret) {x : Int32} (hd : decode code pc = .ok (.ineg, 1)) (pc' : Nat) (v : Int32) (hv : -x = v) (H : W l Z R K Q h cc ss pc' ls (.int v :: st)) (hp : pc + 1 = pc' := by rfl) : W l Z R K Q h cc ss pc ls (.int x :: st) := by
  subst hp
  subst hv
  exact fun T L X N e => Ends.step (fun t k => XS.ineg X.here ok.1 rfl (hb ok.2.2.1 hd) rfl k) (H T L X N e)
theorem W.i2b (ok : Ok Z K y code maxL ret) {x : Int32} (hd : decode code pc = .ok (.i2b, 1)) (pc' : Nat) (H : W l Z R K Q h cc ss pc' ls (.int (x.toInt8.toInt32) :: st)) (hp : pc + 1 = pc' := by rfl) : W l Z R K Q h cc ss pc ls (.int x :: st) := by
  subst hp
  exact fun T L X N e => Ends.step (fun t k => XS.i2b X.here ok.1 rfl (hb ok.2.2.1 hd) rfl k) (H T L X N e)
theorem W.i2bV (ok : Ok Z K y code maxL ret) {x : Int32} (hd : decode code pc = .ok (.i2b, 1)) (pc' : Nat) (v : Int32) (hv : x.toInt8.toInt32 = v) (H : W l Z R K Q h cc ss pc' ls (.int v :: st)) (hp : pc + 1 = pc' := by rfl) : W l Z R K Q h cc ss pc ls (.int x :: st) := by
  subst hp
  subst hv
  exact fun T L X N e => Ends.step (fun t k => XS.i2b X.here ok.1 rfl (hb ok.2.2.1 hd) rfl k) (H T L X N e)
theorem W.i2c (ok : Ok Z K y code maxL ret) {x : Int32} (hd : decode code pc = .ok (.i2c, 1)) (pc' : Nat) (H : W l Z R K Q h cc ss pc' ls (.int (x.toUInt32.toUInt16.toUInt32.toInt32) :: st)) (hp : pc + 1 = pc' := by rfl) : W l Z R K Q h cc ss pc ls (.int x :: st) := by
  subst hp
  exact fun T L X N e => Ends.step (fun t k => XS.i2c X.here ok.1 rfl (hb ok.2.2.1 hd) rfl k) (H T L X N e)
theorem W.i2cV (ok : Ok Z K y code maxL ret) {x : Int32} (hd : decode code pc = .ok (.i2c, 1)) (pc' : Nat) (v : Int32) (hv : x.toUInt32.toUInt16.toUInt32.toInt32 = v) (H : W l Z R K Q h cc ss pc' ls (.int v :: st)) (hp : pc + 1 = pc' := by rfl) : W l Z R K Q h cc ss pc ls (.int x :: st) := by
  subst hp
  subst hv
  exact fun T L X N e => Ends.step (fun t k => XS.i2c X.here ok.1 rfl (hb ok.2.2.1 hd) rfl k) (H T L X N e)
theorem W.i2s (ok : Ok Z K y code maxL ret) {x : Int32} (hd : decode code pc = .ok (.i2s, 1)) (pc' : Nat) (H : W l Z R K Q h cc ss pc' ls (.int (x.toInt16.toInt32) :: st)) (hp : pc + 1 = pc' := by rfl) : W l Z R K Q h cc ss pc ls (.int x :: st) := by
  subst hp
  exact fun T L X N e => Ends.step (fun t k => XS.i2s X.here ok.1 rfl (hb ok.2.2.1 hd) rfl k) (H T L X N e)
theorem W.i2sV (ok : Ok Z K y code maxL ret) {x : Int32} (hd : decode code pc = .ok (.i2s, 1)) (pc' : Nat) (v : Int32) (hv : x.toInt16.toInt32 = v) (H : W l Z R K Q h cc ss pc' ls (.int v :: st)) (hp : pc + 1 = pc' := by rfl) : W l Z R K Q h cc ss pc ls (.int x :: st) := by
  subst hp
  subst hv
  exact fun T L X N e => Ends.step (fun t k => XS.i2s X.here ok.1 rfl (hb ok.2.2.1 hd) rfl k) (H T L X N e)
theorem W.i2l (ok : Ok Z K y code maxL ret) {x : Int32} (hd : decode code pc = .ok (.i2l, 1)) (pc' : Nat) (H : W l Z R K Q h cc ss pc' ls (.long (x.toInt64) :: st)) (hp : pc + 1 = pc' := by rfl) : W l Z R K Q h cc ss pc ls (.int x :: st) := by
  subst hp
  exact fun T L X N e => Ends.step (fun t k => XS.i2l X.here ok.1 rfl (hb ok.2.2.1 hd) rfl k) (H T L X N e)
theorem W.l2i (ok : Ok Z K y code maxL ret) {x : Int64} (hd : decode code pc = .ok (.l2i, 1)) (pc' : Nat) (H : W l Z R K Q h cc ss pc' ls (.int (x.toInt32) :: st)) (hp : pc + 1 = pc' := by rfl) : W l Z R K Q h cc ss pc ls (.long x :: st) := by
  subst hp
  exact fun T L X N e => Ends.step (fun t k => XS.l2i X.here ok.1 rfl (hb ok.2.2.1 hd) rfl k) (H T L X N e)
theorem W.lneg (ok : Ok Z K y code maxL ret) {x : Int64} (hd : decode code pc = .ok (.lneg, 1)) (pc' : Nat) (H : W l Z R K Q h cc ss pc' ls (.long (-x) :: st)) (hp : pc + 1 = pc' := by rfl) : W l Z R K Q h cc ss pc ls (.long x :: st) := by
  subst hp
  exact fun T L X N e => Ends.step (fun t k => XS.lneg X.here ok.1 rfl (hb ok.2.2.1 hd) rfl k) (H T L X N e)
theorem W.iinc (ok : Ok Z K y code maxL ret) {k : Nat} {cst : Int} {x : Int32} (hd : decode code pc = .ok (.iinc k cst, 3)) (pc' : Nat) (v : Int32) (ls' : Array Slot) (hl : ls[k]? = some (.val (.int x))) (hv : x + Int32.ofInt cst = v) (hl' : storeLocals ls k (.int v) = some ls') (H : W l Z R K Q h cc ss pc' ls' (st)) (hp : pc + 3 = pc' := by rfl) : W l Z R K Q h cc ss pc ls (st) := by
  subst hp
  subst hv
  exact fun T L X N e => Ends.step (fun t k => XS.iinc X.here ok.1 rfl (hb ok.2.2.1 hd) hl hl' k) (H T L X N e)
theorem W.dup (ok : Ok Z K y code maxL ret) {v : Value} (hd : decode code pc = .ok (.dup, 1)) (pc' : Nat) (hv : v.category = 1) (H : W l Z R K Q h cc ss pc' ls (v :: v :: st)) (hp : pc + 1 = pc' := by rfl) : W l Z R K Q h cc ss pc ls (v :: st) := by
  subst hp
  exact fun T L X N e => Ends.step (fun t k => XS.dup X.here ok.1 rfl (hb ok.2.2.1 hd) rfl hv k) (H T L X N e)
theorem W.dupX1 (ok : Ok Z K y code maxL ret) {v w : Value} (hd : decode code pc = .ok (.dup_x1, 1)) (pc' : Nat) (hv : v.category = 1) (hw : w.category = 1) (H : W l Z R K Q h cc ss pc' ls (v :: w :: v :: st)) (hp : pc + 1 = pc' := by rfl) : W l Z R K Q h cc ss pc ls (v :: w :: st) := by
  subst hp
  exact fun T L X N e => Ends.step (fun t k => XS.dupX1 X.here ok.1 rfl (hb ok.2.2.1 hd) rfl hv hw k) (H T L X N e)
theorem W.pop (ok : Ok Z K y code maxL ret) {v : Value} (hd : decode code pc = .ok (.pop, 1)) (pc' : Nat) (hv : v.category = 1) (H : W l Z R K Q h cc ss pc' ls (st)) (hp : pc + 1 = pc' := by rfl) : W l Z R K Q h cc ss pc ls (v :: st) := by
  subst hp
  exact fun T L X N e => Ends.step (fun t k => XS.pop X.here ok.1 rfl (hb ok.2.2.1 hd) rfl hv k) (H T L X N e)
theorem W.goto (ok : Ok Z K y code maxL ret) {o : Int} (hd : decode code pc = .ok (.goto o, 3)) (pc' : Nat) (H : W l Z R K Q h cc ss pc' ls st) (ho : 0 ≤ (pc : Int) + o := by decide) (hp : ((pc : Int) + o).toNat = pc' := by decide) : W l Z R K Q h cc ss pc ls st :=
  fun T L X N e => Ends.step (fun t k => XS.goto X.here ok.1 rfl (pc0 := pc) (pc' := pc') rfl (hb ok.2.2.1 hd) ho hp k) (H T L X N e)
theorem W.icmpT (ok : Ok Z K y code maxL ret) {cd : ClassFile.Cond} {x z : Int32} {o : Int} (hd : decode code pc = .ok (.if_icmp cd o, 3)) (pc' : Nat) (hc : cdT cd x z) (H : W l Z R K Q h cc ss pc' ls st) (ho : 0 ≤ (pc : Int) + o := by decide) (hp : ((pc : Int) + o).toNat = pc' := by decide) : W l Z R K Q h cc ss pc ls (.int z :: .int x :: st) :=
  fun T L X N e => Ends.step (fun t k => XS.icmpYes X.here ok.1 rfl (pc0 := pc) (pc' := pc') rfl (hb ok.2.2.1 hd) rfl (cd_t hc) ho hp k) (H T L X N e)
theorem W.icmpF (ok : Ok Z K y code maxL ret) {cd : ClassFile.Cond} {x z : Int32} {o : Int} (hd : decode code pc = .ok (.if_icmp cd o, 3)) (pc' : Nat) (hc : cdF cd x z) (H : W l Z R K Q h cc ss pc' ls st) (hp : pc + 3 = pc' := by rfl) : W l Z R K Q h cc ss pc ls (.int z :: .int x :: st) := by
  subst hp
  exact fun T L X N e => Ends.step (fun t k => XS.icmpNo X.here ok.1 rfl (hb ok.2.2.1 hd) rfl (cd_f hc) k) (H T L X N e)
theorem W.icmp (ok : Ok Z K y code maxL ret) {cd : ClassFile.Cond} {x z : Int32} {o : Int} (hd : decode code pc = .ok (.if_icmp cd o, 3)) (pcT pcF : Nat) (HT : cdT cd x z → W l Z R K Q h cc ss pcT ls st) (HF : cdF cd x z → W l Z R K Q h cc ss pcF ls st) (ho : 0 ≤ (pc : Int) + o := by decide) (hp : ((pc : Int) + o).toNat = pcT := by decide) (hq : pc + 3 = pcF := by rfl) : W l Z R K Q h cc ss pc ls (.int z :: .int x :: st) :=
  (cd_or cd x z).elim (fun hc => W.icmpT ok hd pcT hc (HT hc) ho hp) (fun hc => W.icmpF ok hd pcF hc (HF hc) hq)
theorem W.ifT (ok : Ok Z K y code maxL ret) {cd : ClassFile.Cond} {x : Int32} {o : Int} (hd : decode code pc = .ok (.ifCond cd o, 3)) (pc' : Nat) (hc : cdT cd x 0) (H : W l Z R K Q h cc ss pc' ls st) (ho : 0 ≤ (pc : Int) + o := by decide) (hp : ((pc : Int) + o).toNat = pc' := by decide) : W l Z R K Q h cc ss pc ls (.int x :: st) :=
  fun T L X N e => Ends.step (fun t k => XS.ifYes X.here ok.1 rfl (pc0 := pc) (pc' := pc') rfl (hb ok.2.2.1 hd) rfl ((if0 _ _).trans (cd_t hc)) ho hp k) (H T L X N e)
theorem W.ifF (ok : Ok Z K y code maxL ret) {cd : ClassFile.Cond} {x : Int32} {o : Int} (hd : decode code pc = .ok (.ifCond cd o, 3)) (pc' : Nat) (hc : cdF cd x 0) (H : W l Z R K Q h cc ss pc' ls st) (hp : pc + 3 = pc' := by rfl) : W l Z R K Q h cc ss pc ls (.int x :: st) := by
  subst hp
  exact fun T L X N e => Ends.step (fun t k => XS.ifNo X.here ok.1 rfl (hb ok.2.2.1 hd) rfl ((if0 _ _).trans (cd_f hc)) k) (H T L X N e)
theorem W.iff (ok : Ok Z K y code maxL ret) {cd : ClassFile.Cond} {x : Int32} {o : Int} (hd : decode code pc = .ok (.ifCond cd o, 3)) (pcT pcF : Nat) (HT : cdT cd x 0 → W l Z R K Q h cc ss pcT ls st) (HF : cdF cd x 0 → W l Z R K Q h cc ss pcF ls st) (ho : 0 ≤ (pc : Int) + o := by decide) (hp : ((pc : Int) + o).toNat = pcT := by decide) (hq : pc + 3 = pcF := by rfl) : W l Z R K Q h cc ss pc ls (.int x :: st) :=
  (cd_or cd x 0).elim (fun hc => W.ifT ok hd pcT hc (HT hc) ho hp) (fun hc => W.ifF ok hd pcF hc (HF hc) hq)
theorem W.ifnullT (ok : Ok Z K y code maxL ret) {o : Int} (hd : decode code pc = .ok (.ifnull o, 3)) (pc' : Nat) (H : W l Z R K Q h cc ss pc' ls st) (ho : 0 ≤ (pc : Int) + o := by decide) (hp : ((pc : Int) + o).toNat = pc' := by decide) : W l Z R K Q h cc ss pc ls (.null :: st) :=
  fun T L X N e => Ends.step (fun t k => XS.ifnullYes X.here ok.1 rfl (pc0 := pc) (pc' := pc') rfl (hb ok.2.2.1 hd) rfl ho hp k) (H T L X N e)
theorem W.ifnullF (ok : Ok Z K y code maxL ret) {o : Int} {a : Addr} (hd : decode code pc = .ok (.ifnull o, 3)) (pc' : Nat) (H : W l Z R K Q h cc ss pc' ls st) (hp : pc + 3 = pc' := by rfl) : W l Z R K Q h cc ss pc ls (.ref a :: st) := by
  subst hp
  exact fun T L X N e => Ends.step (fun t k => XS.ifnullNo X.here ok.1 rfl (hb ok.2.2.1 hd) rfl k) (H T L X N e)
theorem W.ifnonnullT (ok : Ok Z K y code maxL ret) {o : Int} {a : Addr} (hd : decode code pc = .ok (.ifnonnull o, 3)) (pc' : Nat) (H : W l Z R K Q h cc ss pc' ls st) (ho : 0 ≤ (pc : Int) + o := by decide) (hp : ((pc : Int) + o).toNat = pc' := by decide) : W l Z R K Q h cc ss pc ls (.ref a :: st) :=
  fun T L X N e => Ends.step (fun t k => XS.ifnonnullYes X.here ok.1 rfl (pc0 := pc) (pc' := pc') rfl (hb ok.2.2.1 hd) rfl ho hp k) (H T L X N e)
theorem W.ifnonnullF (ok : Ok Z K y code maxL ret) {o : Int} (hd : decode code pc = .ok (.ifnonnull o, 3)) (pc' : Nat) (H : W l Z R K Q h cc ss pc' ls st) (hp : pc + 3 = pc' := by rfl) : W l Z R K Q h cc ss pc ls (.null :: st) := by
  subst hp
  exact fun T L X N e => Ends.step (fun t k => XS.ifnonnullNo X.here ok.1 rfl (hb ok.2.2.1 hd) rfl k) (H T L X N e)
theorem W.acmp (ok : Ok Z K y code maxL ret) {cd : ACond} {v w : Value} {o : Int} (hd : decode code pc = .ok (.if_acmp cd o, 3)) (pc' : Nat) (same : Bool) (hq : decide (v = w) = same) (H : W l Z R K Q h cc ss pc' ls st) (hv : v.isRef = true := by rfl) (hw : w.isRef = true := by rfl) (ho : 0 ≤ (pc : Int) + o := by decide) (hp : pc' = if acV cd same = true then ((pc : Int) + o).toNat else pc + 3 := by decide) : W l Z R K Q h cc ss pc ls (w :: v :: st) :=
  fun T L X N e => Ends.step (fun t k => Jvm.RoadKit.acmp (g := mkF K.m pc ls (w :: v :: st)) X ok.1 rfl hv hw (pc0 := pc) (pc' := pc') rfl (hb ok.2.2.1 hd) rfl hq ho hp k) (H T L X N e)
theorem tb_of {tb : ∀ d ∈ ts, d.before a0 Z = true} {i : Nat} {d : Jvm.Cond} (w : ts[i]? = some d) : d.before a0 Z = true := tb d (List.mem_of_getElem? w)
theorem W.ldc (ok : Ok Z K y code maxL ret) (tb : ∀ d ∈ ts, d.before a0 Z = true) (i : Nat) {idx : Nat} {v : Int32} (w : ts[i]? = some (.constant y.cls idx v)) (hd : decode code pc = .ok (.ldc idx, 2)) (pc' : Nat) (H : W l Z R K Q h cc ss pc' ls (.int v :: st)) (hp : pc + 2 = pc' := by rfl) : W l Z R K Q h cc ss pc ls st := by
  subst hp
  exact fun T L X N e => Ends.step (fun t k => X.ldcInt ok.1 ok.2.2.2.2.1 (mvT ok.2.1 (tb _ (List.mem_of_getElem? w))) (g := mkF K.m pc ls st) rfl (hb ok.2.2.1 hd) _ k) (H T L X N e)
theorem W.ldcw (ok : Ok Z K y code maxL ret) (tb : ∀ d ∈ ts, d.before a0 Z = true) (i : Nat) {idx : Nat} {v : Int32} (w : ts[i]? = some (.constant y.cls idx v)) (hd : decode code pc = .ok (.ldc_w idx, 3)) (pc' : Nat) (H : W l Z R K Q h cc ss pc' ls (.int v :: st)) (hp : pc + 3 = pc' := by rfl) : W l Z R K Q h cc ss pc ls st := by
  subst hp
  exact fun T L X N e => Ends.step (fun t k => X.ldcwInt ok.1 ok.2.2.2.2.1 (mvT ok.2.1 (tb _ (List.mem_of_getElem? w))) (g := mkF K.m pc ls st) rfl (hb ok.2.2.1 hd) _ k) (H T L X N e)

/-! returns -/
theorem W.retA {t : FieldType} (ok : Ok Z K y code maxL (some t)) {w : Value} {i : Instr} (hd : decode code pc = .ok (i, 1)) (hn : narrow t w = w)
    (hi : (i = .ireturn ∧ (t = .int ∨ t = .boolean ∨ t = .byte ∨ t = .char ∨ t = .short) ∧ ∃ z, w = .int z) ∨ (i = .lreturn ∧ t = .long ∧ ∃ z, w = .long z) ∨ (i = .dreturn ∧ t = .double ∧ ∃ z, w = .double z) ∨ (i = .freturn ∧ t = .float ∧ ∃ z, w = .float z) ∨ (i = .areturn ∧ t.isReference = true ∧ w.isRef = true))
    (HQ : Q (some w) h) (hc : cc ≤ R.cells) (hs : ss ≤ R.slots) : W l Z R K Q h cc ss pc ls (w :: st) := by
  intro T L X N e
  obtain ⟨fs, hr, hrun, hended, hW, hsame⟩ := X.leave (v := some w) (fun q => by rw [ok.2.2.2.2.2.1] at q; cases q) ok.2.2.2.2.2.2.2.1
  exact ⟨_, _, retOut X ok.1 ok.2.2.2.2.2.1 hn hi (hb ok.2.2.1 hd) hr, hrun, hended, _, L, rfl, ⟨by show Q (some w) T.heap; rw [e]; exact HQ, N⟩, ok.2.2.2.2.2.2.2.2 _ _ _ _ _ ⟨⟨_, rfl⟩, hW, hsame.mono hc hs⟩⟩
theorem W.iret {t : FieldType} (ok : Ok Z K y code maxL (some t)) {v : Int32} (hd : decode code pc = .ok (.ireturn, 1)) (hn : narrow t (.int v) = .int v) (HQ : Q (some (.int v)) h)
    (ht : t = .int ∨ t = .boolean ∨ t = .byte ∨ t = .char ∨ t = .short := by simp) (hc : cc ≤ R.cells := by decide) (hs : ss ≤ R.slots := by decide) : W l Z R K Q h cc ss pc ls (.int v :: st) :=
  W.retA ok hd hn (Or.inl ⟨rfl, ht, _, rfl⟩) HQ hc hs
theorem W.aret {t : FieldType} (ok : Ok Z K y code maxL (some t)) {w : Value} (hd : decode code pc = .ok (.areturn, 1)) (HQ : Q (some w) h) (hn : narrow t w = w := by rfl)
    (ht : t.isReference = true := by rfl) (hw : w.isRef = true := by rfl) (hc : cc ≤ R.cells := by decide) (hs : ss ≤ R.slots := by decide) : W l Z R K Q h cc ss pc ls (w :: st) :=
  W.retA ok hd hn (Or.inr (Or.inr (Or.inr (Or.inr ⟨rfl, ht, hw⟩)))) HQ hc hs
theorem W.vret (ok : Ok Z K y code maxL none) (hd : decode code pc = .ok (.return_, 1)) (HQ : Q none h) (hc : cc ≤ R.cells := by decide) (hs : ss ≤ R.slots := by decide) : W l Z R K Q h cc ss pc ls [] := by
  intro T L X N e
  obtain ⟨fs, hr, hrun, hended, hW, hsame⟩ := X.leave (v := none) (fun q => rfl) ok.2.2.2.2.2.2.2.1
  exact ⟨_, _, X.returnOut ok.1 ok.2.2.2.2.2.1 (hb ok.2.2.1 hd) hr, hrun, hended, _, L, rfl, ⟨by show Q none T.heap; rw [e]; exact HQ, N⟩, ok.2.2.2.2.2.2.2.2 _ _ _ _ _ ⟨⟨_, rfl⟩, hW, hsame.mono hc hs⟩⟩
/-! calls -/
abbrev Tb (Z : State) (a0 : Array Value) (ts : List Jvm.Cond) : Prop := ∀ d ∈ ts, d.before a0 Z = true
theorem W.callS (ok : Ok Z K y code maxL ret) (tb : Tb Z a0 ts) {idx : Nat} {z : MethodName} {code' : ByteArray} {maxL' : Nat} {ret' : Option FieldType} {rm : Room} {Q' : Option Value → Heap → Prop} {ps : List FieldType} {rt : Option FieldType} {argsL rest : List Value}
    (i1 i2 i3 i4 : Nat) (w1 : ts[i1]? = some (.methodLink y.cls idx z)) (w2 : ts[i2]? = some (.static z)) (w3 : ts[i3]? = some (.initialized z.cls)) (w4 : ts[i4]? = some (.code z code' maxL' ret'))
    (hd : decode code pc = .ok (.invokestatic idx, 3)) (hpd : parseMethodDescriptor z.desc = some ⟨ps, rt⟩) (con : Con l Z z code' maxL' ret' rm argsL.toArray h Q') (wgt cc' ss' pc' : Nat)
    (H : ∀ v h', Q' v h' → W l Z R K Q h' cc' ss' pc' ls (v.toList ++ rest))
    (hm : z.cls ≠ "java/lang/invoke/MethodHandle" ∧ z.cls ≠ "java/lang/invoke/VarHandle" := by decide) (hlen : argsL.length = ps.length := by rfl) (hst : st = argsL.reverse ++ rest := by rfl) (hW : (rest.map fun v => v.category).sum ≤ wgt := by exact Nat.le_refl _)
    (hf : rm.frames + 1 ≤ R.frames := by decide) (hl : wgt + (maxL' + 11) + rm.locals ≤ R.locals := by decide) (hc : cc' ≤ R.cells := by decide) (hs : ss' ≤ R.slots := by decide) (hc' : cc + rm.cells = cc' := by rfl) (hs' : ss + rm.slots = ss' := by rfl) (hsz : ls.size = maxL := by rfl) (hp : pc + 3 = pc' := by rfl) :
    W l Z R K Q h cc ss pc ls st := by
  subst hst hc' hs' hp
  intro T L X N e
  obtain ⟨v, _, ⟨T', L', k', n'⟩, -, X', ⟨Lc, hQ, l1, l2, l3⟩, stp⟩ := Jvm.LawKit.callS X ok.1 (y := z) ok.2.2.2.2.1 (mvT ok.2.1 (tb _ (List.mem_of_getElem? w1))) (mvT ok.2.1 (tb _ (List.mem_of_getElem? w2))) (mvT ok.2.1 (tb _ (List.mem_of_getElem? w3))) (mvT ok.2.1 (tb _ (List.mem_of_getElem? w4))) hm
    (backOf (W := wgt) (Q := fun v h L => Q' v h ∧ Fr Z.heap.size L) (con []) ok.2.1 (tb _ (List.mem_of_getElem? w4)) (tb _ (List.mem_of_getElem? w3)) hf hl) (g := mkF K.m pc ls (argsL.reverse ++ rest)) rfl (hsz.trans ok.2.2.2.1.symm) (argsL := argsL) (rest := rest) (lenOf hpd hlen) rfl (by simpa using hW) (hb ok.2.2.1 hd) (fun _ _ => ⟨rfl, e, hc, hs⟩)
  dsimp only [Pt.U, Pt.locs, Pt.cells, Pt.slots] at X' l1 l2 l3 stp hQ
  subst l1 l2 l3
  exact Ends.step stp (H v T'.heap hQ.1 T' _ X' (N.app hQ.2) rfl)
theorem W.callI (ok : Ok Z K y code maxL ret) (tb : Tb Z a0 ts) {idx : Nat} {z : MethodName} {code' : ByteArray} {maxL' : Nat} {rm : Room} {Q' : Option Value → Heap → Prop} {ps : List FieldType} {rt : Option FieldType} {a : Addr} {argsL rest : List Value}
    (i1 i2 i3 i4 : Nat) (w1 : ts[i1]? = some (.methodLink y.cls idx z)) (w2 : ts[i2]? = some (.instanceMethod z)) (w3 : ts[i3]? = some (.initialized z.cls)) (w4 : ts[i4]? = some (.code z code' maxL' none))
    (hd : decode code pc = .ok (.invokespecial idx, 3)) (hpd : parseMethodDescriptor z.desc = some ⟨ps, rt⟩) (con : Con l Z z code' maxL' none rm (.ref a :: argsL).toArray h Q') (wgt cc' ss' pc' : Nat)
    (H : ∀ v h', Q' v h' → W l Z R K Q h' cc' ss' pc' ls (v.toList ++ rest))
    (hnm : z.name = "<init>" := by rfl) (hm : z.cls ≠ "java/lang/invoke/MethodHandle" ∧ z.cls ≠ "java/lang/invoke/VarHandle" := by decide) (hlen : argsL.length = ps.length := by rfl) (hst : st = argsL.reverse ++ .ref a :: rest := by rfl) (hW : (rest.map fun v => v.category).sum ≤ wgt := by exact Nat.le_refl _)
    (hf : rm.frames + 1 ≤ R.frames := by decide) (hl : wgt + (maxL' + 11) + rm.locals ≤ R.locals := by decide) (hc : cc' ≤ R.cells := by decide) (hs : ss' ≤ R.slots := by decide) (hc' : cc + rm.cells = cc' := by rfl) (hs' : ss + rm.slots = ss' := by rfl) (hsz : ls.size = maxL := by rfl) (hp : pc + 3 = pc' := by rfl) :
    W l Z R K Q h cc ss pc ls st := by
  subst hst hc' hs' hp
  intro T L X N e
  obtain ⟨v, _, ⟨T', L', k', n'⟩, -, X', ⟨Lc, hQ, l1, l2, l3⟩, stp⟩ := X.specialBack ok.1 (y := z) hnm ok.2.2.2.2.1 (mvT ok.2.1 (tb _ (List.mem_of_getElem? w1))) (mvT ok.2.1 (tb _ (List.mem_of_getElem? w2))) (mvT ok.2.1 (tb _ (List.mem_of_getElem? w4))) hm
    (backOf (W := wgt) (Q := fun v h L => Q' v h ∧ Fr Z.heap.size L) (con []) ok.2.1 (tb _ (List.mem_of_getElem? w4)) (tb _ (List.mem_of_getElem? w3)) hf hl) (g := mkF K.m pc ls (argsL.reverse ++ .ref a :: rest)) rfl (hsz.trans ok.2.2.2.1.symm) (Steps.refl _) (a := a) (argsL := argsL) (rest := rest) (lenOf hpd hlen) rfl (by simpa using hW) (hb ok.2.2.1 hd) (fun _ _ => ⟨rfl, e, hc, hs⟩)
  dsimp only [Pt.U, Pt.locs, Pt.cells, Pt.slots] at X' l1 l2 l3 stp hQ
  subst l1 l2 l3
  exact Ends.step (fun t k => stp.trans k) (H v T'.heap hQ.1 T' _ X' (N.app hQ.2) rfl)
theorem W.initO (ok : Ok Z K y code maxL ret) (tb : Tb Z a0 ts) {idx : Nat} {a : Addr} (i1 i2 i3 : Nat) (w1 : ts[i1]? = some (.methodLink y.cls idx Lib.objectInit)) (w2 : ts[i2]? = some (.instanceMethod Lib.objectInit)) (w3 : ts[i3]? = some (.code Lib.objectInit ⟨#[0xb1]⟩ 1 none))
    (hd : decode code pc = .ok (.invokespecial idx, 3)) (wgt pc' : Nat) (H : W l Z R K Q h cc ss pc' ls st) (hW : (st.map fun v => v.category).sum ≤ wgt := by exact Nat.le_refl _) (hf : 1 ≤ R.frames := by decide) (hl : wgt + 12 ≤ R.locals := by decide) (hsz : ls.size = maxL := by rfl) (hp : pc + 3 = pc' := by rfl) :
    W l Z R K Q h cc ss pc ls (.ref a :: st) := by
  subst hp
  intro T L X N e
  obtain ⟨T', X', e', stp⟩ := Jvm.RoadKit.initO X ok.1 ok.2.1 ok.2.2.2.2.1 (tb _ (List.mem_of_getElem? w1)) (tb _ (List.mem_of_getElem? w2)) (tb _ (List.mem_of_getElem? w3)) e (g := mkF K.m pc ls (.ref a :: st)) rfl (hsz.trans ok.2.2.2.1.symm) rfl (hb ok.2.2.1 hd) hf (W := wgt) (by simpa using hW) hl
  exact Ends.step stp (H T' _ X' N e')
theorem W.callV (ok : Ok Z K y code maxL ret) (tb : Tb Z a0 ts) {idx : Nat} {z z' : MethodName} {C : String} {code' : ByteArray} {maxL' : Nat} {ret' : Option FieldType} {rm : Room} {Q' : Option Value → Heap → Prop} {ps : List FieldType} {rt : Option FieldType} {a : Addr} {argsL rest : List Value}
    (i1 i2 i3 i4 i5 i6 : Nat) (w1 : ts[i1]? = some (.methodLink y.cls idx z)) (w2 : ts[i2]? = some (.declares z)) (w3 : ts[i3]? = some (.selects C z z')) (w4 : ts[i4]? = some (.instanceMethod z')) (w5 : ts[i5]? = some (.code z' code' maxL' ret')) (w6 : ts[i6]? = some (.initialized z'.cls))
    (nf : NotFace K.s z) (E : Exa Z h a C)
    (hd : decode code pc = .ok (.invokevirtual idx, 3)) (hpd : parseMethodDescriptor z.desc = some ⟨ps, rt⟩) (con : Con l Z z' code' maxL' ret' rm (.ref a :: argsL).toArray h Q') (wgt cc' ss' pc' : Nat)
    (H : ∀ v h', Q' v h' → W l Z R K Q h' cc' ss' pc' ls (v.toList ++ rest))
    (hm : z.cls ≠ "java/lang/invoke/MethodHandle" ∧ z.cls ≠ "java/lang/invoke/VarHandle" := by decide) (hlen : argsL.length = ps.length := by rfl) (hst : st = argsL.reverse ++ .ref a :: rest := by rfl) (hW : (rest.map fun v => v.category).sum ≤ wgt := by exact Nat.le_refl _)
    (hf : rm.frames + 1 ≤ R.frames := by decide) (hl : wgt + (maxL' + 11) + rm.locals ≤ R.locals := by decide) (hc : cc' ≤ R.cells := by decide) (hs : ss' ≤ R.slots := by decide) (hc' : cc + rm.cells = cc' := by rfl) (hs' : ss + rm.slots = ss' := by rfl) (hsz : ls.size = maxL := by rfl) (hp : pc + 3 = pc' := by rfl) :
    W l Z R K Q h cc ss pc ls st := by
  subst hst hc' hs' hp
  intro T L X N e
  obtain ⟨cq, kq, qa, qb, qc⟩ := isOf (T := T) ok.2.1 e E
  obtain ⟨v, _, ⟨T', L', k', n'⟩, -, X', ⟨Lc, hQ, l1, l2, l3⟩, stp⟩ := X.virtualBack ok.1 (y := z) (z := z') ok.2.2.2.2.1 (mvT ok.2.1 (tb _ (List.mem_of_getElem? w1))) (mvT ok.2.1 (tb _ (List.mem_of_getElem? w2))) nf (mvT ok.2.1 (tb _ (List.mem_of_getElem? w3))) (mvT ok.2.1 (tb _ (List.mem_of_getElem? w4))) hm
    (backOf (W := wgt) (Q := fun v h L => Q' v h ∧ Fr Z.heap.size L) (con []) ok.2.1 (tb _ (List.mem_of_getElem? w5)) (tb _ (List.mem_of_getElem? w6)) hf hl) qa qc (g := mkF K.m pc ls (argsL.reverse ++ .ref a :: rest)) rfl (hsz.trans ok.2.2.2.1.symm) (Steps.refl _) (argsL := argsL) (rest := rest) (lenOf hpd hlen) rfl (by simpa using hW) (hb ok.2.2.1 hd) (fun _ _ => ⟨rfl, e, hc, hs⟩)
  dsimp only [Pt.U, Pt.locs, Pt.cells, Pt.slots] at X' l1 l2 l3 stp hQ
  subst l1 l2 l3
  exact Ends.step (fun t k => stp.trans k) (H v T'.heap hQ.1 T' _ X' (N.app hQ.2) rfl)
theorem W.callU (ok : Ok Z K y code maxL ret) (tb : Tb Z a0 ts) {idx : Nat} {z z' : MethodName} {C owner : String} {code' : ByteArray} {maxL' : Nat} {ret' : Option FieldType} {rm : Room} {Q' : Option Value → Heap → Prop} {ps : List FieldType} {rt : Option FieldType} {a : Addr} {argsL rest : List Value}
    (i1 i2 i3 i4 i5 i6 i7 : Nat) (w1 : ts[i1]? = some (.methodLink y.cls idx z)) (w2 : ts[i2]? = some (.declares ⟨owner, z.name, z.desc⟩)) (w3 : ts[i3]? = some (.selects C z z')) (w4 : ts[i4]? = some (.instanceMethod z')) (w5 : ts[i5]? = some (.code z' code' maxL' ret')) (w6 : ts[i6]? = some (.initialized z'.cls)) (w7 : ts[i7]? = some (.sameMethod z.cls owner z.name z.desc))
    (E : Exa Z h a C)
    (hd : decode code pc = .ok (.invokevirtual idx, 3)) (hpd : parseMethodDescriptor z.desc = some ⟨ps, rt⟩) (con : Con l Z z' code' maxL' ret' rm (.ref a :: argsL).toArray h Q') (wgt cc' ss' pc' : Nat)
    (H : ∀ v h', Q' v h' → W l Z R K Q h' cc' ss' pc' ls (v.toList ++ rest))
    (hm : owner ≠ "java/lang/invoke/MethodHandle" ∧ owner ≠ "java/lang/invoke/VarHandle" := by decide) (hlen : argsL.length = ps.length := by rfl) (hst : st = argsL.reverse ++ .ref a :: rest := by rfl) (hW : (rest.map fun v => v.category).sum ≤ wgt := by exact Nat.le_refl _)
    (hf : rm.frames + 1 ≤ R.frames := by decide) (hl : wgt + (maxL' + 11) + rm.locals ≤ R.locals := by decide) (hc : cc' ≤ R.cells := by decide) (hs : ss' ≤ R.slots := by decide) (hc' : cc + rm.cells = cc' := by rfl) (hs' : ss + rm.slots = ss' := by rfl) (hsz : ls.size = maxL := by rfl) (hp : pc + 3 = pc' := by rfl) :
    W l Z R K Q h cc ss pc ls st := by
  subst hst hc' hs' hp
  intro T L X N e
  obtain ⟨cq, kq, qa, qb, qc⟩ := isOf (T := T) ok.2.1 e E
  obtain ⟨v, _, ⟨T', L', k', n'⟩, -, X', ⟨Lc, hQ, l1, l2, l3⟩, stp⟩ := X.virtualBackUp ok.1 (x := z) (y := z') (owner := owner) ok.2.2.2.2.1 (mvT ok.2.1 (tb _ (List.mem_of_getElem? w1))) (mvT ok.2.1 (tb _ (List.mem_of_getElem? w7))) (mvT ok.2.1 (tb _ (List.mem_of_getElem? w2))) hm (mvT ok.2.1 (tb _ (List.mem_of_getElem? w3))) (mvT ok.2.1 (tb _ (List.mem_of_getElem? w4)))
    (backOf (W := wgt) (Q := fun v h L => Q' v h ∧ Fr Z.heap.size L) (con []) ok.2.1 (tb _ (List.mem_of_getElem? w5)) (tb _ (List.mem_of_getElem? w6)) hf hl) qa qc (g := mkF K.m pc ls (argsL.reverse ++ .ref a :: rest)) rfl (hsz.trans ok.2.2.2.1.symm) (Steps.refl _) (argsL := argsL) (rest := rest) (lenOf hpd hlen) rfl (by simpa using hW) (hb ok.2.2.1 hd) (fun _ _ => ⟨rfl, e, hc, hs⟩)
  dsimp only [Pt.U, Pt.locs, Pt.cells, Pt.slots] at X' l1 l2 l3 stp hQ
  subst l1 l2 l3
  exact Ends.step (fun t k => stp.trans k) (H v T'.heap hQ.1 T' _ X' (N.app hQ.2) rfl)
theorem W.callP (ok : Ok Z K y code maxL ret) (tb : Tb Z a0 ts) {idx : Nat} {z : MethodName} {code' : ByteArray} {maxL' : Nat} {ret' : Option FieldType} {rm : Room} {Q' : Option Value → Heap → Prop} {ps : List FieldType} {rt : Option FieldType} {a : Addr} {C : String} {argsL rest : List Value}
    (i1 i2 i3 i4 i5 i6 : Nat) (w1 : ts[i1]? = some (.methodLink y.cls idx z)) (w2 : ts[i2]? = some (.instanceMethod z)) (w3 : ts[i3]? = some (.selects z.cls z z)) (w4 : ts[i4]? = some (.privateMethod z)) (w5 : ts[i5]? = some (.code z code' maxL' ret')) (w6 : ts[i6]? = some (.initialized z.cls))
    (E : Exa Z h a C)
    (hd : decode code pc = .ok (.invokevirtual idx, 3)) (hpd : parseMethodDescriptor z.desc = some ⟨ps, rt⟩) (con : Con l Z z code' maxL' ret' rm (.ref a :: argsL).toArray h Q') (wgt cc' ss' pc' : Nat)
    (H : ∀ v h', Q' v h' → W l Z R K Q h' cc' ss' pc' ls (v.toList ++ rest))
    (hm : z.cls ≠ "java/lang/invoke/MethodHandle" ∧ z.cls ≠ "java/lang/invoke/VarHandle" := by decide) (hlen : argsL.length = ps.length := by rfl) (hst : st = argsL.reverse ++ .ref a :: rest := by rfl) (hW : (rest.map fun v => v.category).sum ≤ wgt := by exact Nat.le_refl _)
    (hf : rm.frames + 1 ≤ R.frames := by decide) (hl : wgt + (maxL' + 11) + rm.locals ≤ R.locals := by decide) (hc : cc' ≤ R.cells := by decide) (hs : ss' ≤ R.slots := by decide) (hc' : cc + rm.cells = cc' := by rfl) (hs' : ss + rm.slots = ss' := by rfl) (hsz : ls.size = maxL := by rfl) (hp : pc + 3 = pc' := by rfl) :
    W l Z R K Q h cc ss pc ls st := by
  subst hst hc' hs' hp
  intro T L X N e
  obtain ⟨cq, q1, q2⟩ := E.cell
  obtain ⟨v, _, ⟨T', L', k', n'⟩, -, X', ⟨Lc, hQ, l1, l2, l3⟩, stp⟩ := X.privateBack ok.1 (y := z) ok.2.2.2.2.1 (mvT ok.2.1 (tb _ (List.mem_of_getElem? w1))) (mvT ok.2.1 (tb _ (List.mem_of_getElem? w2))) (mvT ok.2.1 (tb _ (List.mem_of_getElem? w3))) (Cond.privateMethod_at (mvP ok.2.1 (tb _ (List.mem_of_getElem? w4)) (args := #[]))) (mvT ok.2.1 (tb _ (List.mem_of_getElem? w5))) hm
    (backOf (W := wgt) (Q := fun v h L => Q' v h ∧ Fr Z.heap.size L) (con []) ok.2.1 (tb _ (List.mem_of_getElem? w5)) (tb _ (List.mem_of_getElem? w6)) hf hl) (g := mkF K.m pc ls (argsL.reverse ++ .ref a :: rest)) rfl (hsz.trans ok.2.2.2.1.symm) (Steps.refl _) (a := a) (by rw [e]; exact q1) q2 (argsL := argsL) (rest := rest) (lenOf hpd hlen) rfl (by simpa using hW) (hb ok.2.2.1 hd) (fun _ _ => ⟨rfl, e, hc, hs⟩)
  dsimp only [Pt.U, Pt.locs, Pt.cells, Pt.slots] at X' l1 l2 l3 stp hQ
  subst l1 l2 l3
  exact Ends.step (fun t k => stp.trans k) (H v T'.heap hQ.1 T' _ X' (N.app hQ.2) rfl)
theorem W.callF (ok : Ok Z K y code maxL ret) (tb : Tb Z a0 ts) {idx cnt : Nat} {z z' : MethodName} {C : String} {code' : ByteArray} {maxL' : Nat} {ret' : Option FieldType} {rm : Room} {Q' : Option Value → Heap → Prop} {ps : List FieldType} {rt : Option FieldType} {a : Addr} {argsL rest : List Value}
    (i1 i2 i3 i4 i5 i6 i7 i8 i9 : Nat) (w1 : ts[i1]? = some (.methodLink y.cls idx z)) (w2 : ts[i2]? = some (.declares z)) (w3 : ts[i3]? = some (.selects C z z')) (w4 : ts[i4]? = some (.instanceMethod z')) (w5 : ts[i5]? = some (.code z' code' maxL' ret')) (w6 : ts[i6]? = some (.initialized z'.cls))
    (w7 : ts[i7]? = some (.interfaceMethod z.cls z.cls z.name z.desc)) (w8 : ts[i8]? = some (.publicMethod z')) (w9 : ts[i9]? = some (.unhidden C z.name z.desc)) (i10 : Nat) (w10 : ts[i10]? = some (.castable C z.cls))
    (E : Exa Z h a C)
    (hd : decode code pc = .ok (.invokeinterface idx cnt, 5)) (hpd : parseMethodDescriptor z.desc = some ⟨ps, rt⟩) (con : Con l Z z' code' maxL' ret' rm (.ref a :: argsL).toArray h Q') (wgt cc' ss' pc' : Nat)
    (H : ∀ v h', Q' v h' → W l Z R K Q h' cc' ss' pc' ls (v.toList ++ rest))
    (hq : ((Jvm.Cond.interfaceMethod z.cls z.cls z.name z.desc).onTables && (Jvm.Cond.interfaceMethod z.cls z.cls z.name z.desc).keepsFace) = true := by rfl) (hm : z.cls ≠ "java/lang/invoke/MethodHandle" ∧ z.cls ≠ "java/lang/invoke/VarHandle" := by decide) (hlen : argsL.length = ps.length := by rfl) (hst : st = argsL.reverse ++ .ref a :: rest := by rfl) (hW : (rest.map fun v => v.category).sum ≤ wgt := by exact Nat.le_refl _)
    (hf : rm.frames + 1 ≤ R.frames := by decide) (hl : wgt + (maxL' + 11) + rm.locals ≤ R.locals := by decide) (hc : cc' ≤ R.cells := by decide) (hs : ss' ≤ R.slots := by decide) (hc' : cc + rm.cells = cc' := by rfl) (hs' : ss + rm.slots = ss' := by rfl) (hsz : ls.size = maxL := by rfl) (hp : pc + 5 = pc' := by rfl) :
    W l Z R K Q h cc ss pc ls st := by
  subst hst hc' hs' hp
  intro T L X N e
  obtain ⟨cq, kq, qa, qb, qc⟩ := isOf (T := T) ok.2.1 e E
  obtain ⟨v, _, ⟨T', L', k', n'⟩, -, X', ⟨Lc, hQ, l1, l2, l3⟩, stp⟩ := X.interfaceBack ok.1 (xi := z) (y := z') ok.2.2.2.2.1 (mvT ok.2.1 (tb _ (List.mem_of_getElem? w1))) (mvT ok.2.1 (tb _ (List.mem_of_getElem? w2))) (mvT ok.2.1 (tb _ (List.mem_of_getElem? w7)) hq) (mvT ok.2.1 (tb _ (List.mem_of_getElem? w3))) (mvT ok.2.1 (tb _ (List.mem_of_getElem? w4))) (mvT ok.2.1 (tb _ (List.mem_of_getElem? w8))) (mvT ok.2.1 (tb _ (List.mem_of_getElem? w9))) (mvT ok.2.1 (tb _ (List.mem_of_getElem? w10))) hm
    (backOf (W := wgt) (Q := fun v h L => Q' v h ∧ Fr Z.heap.size L) (con []) ok.2.1 (tb _ (List.mem_of_getElem? w5)) (tb _ (List.mem_of_getElem? w6)) hf hl) qa qb qc (g := mkF K.m pc ls (argsL.reverse ++ .ref a :: rest)) rfl (hsz.trans ok.2.2.2.1.symm) (Steps.refl _) (argsL := argsL) (rest := rest) (lenOf hpd hlen) rfl (by simpa using hW) (hb ok.2.2.1 hd) (fun _ _ => ⟨rfl, e, hc, hs⟩)
  dsimp only [Pt.U, Pt.locs, Pt.cells, Pt.slots] at X' l1 l2 l3 stp hQ
  subst l1 l2 l3
  exact Ends.step (fun t k => stp.trans k) (H v T'.heap hQ.1 T' _ X' (N.app hQ.2) rfl)
/-! the heap in pieces: objects (class, fields) and arrays (kind, class, values) made by this run; all that stood at the start stands -/
abbrev Fl : Type := String × String × String × Value
abbrev Pc : Type := (String × List Fl) ⊕ (FieldType × ClassId × List Value)
def Ch (Z : State) (h : Heap) (a : Addr) : Pc → Prop
  | .inl q => Exa Z h a q.1 ∧ ∀ f ∈ q.2, Fld Z h a f.1 f.2.1 f.2.2.1 f.2.2.2
  | .inr q => ∃ c : Cell, Arr Z h a c q.1 ∧ c.cls = q.2.1 ∧ c.slots.toList = q.2.2
def HS (Z : State) (h : Heap) (cs : List (Addr × Pc)) : Prop := Ext Z.heap h ∧ (∀ q ∈ cs, Z.heap.size ≤ q.1 ∧ Ch Z h q.1 q.2) ∧ (cs.map (fun q => q.1)).Nodup
def Lay (Z : State) (fs : List Fl) : Prop := (fs.map fun f => Jvm.RoadKit.slotOf Z f.1 f.2.1 f.2.2.1).Nodup
/-- a new object's fields -/
def Nw (Z : State) (a0 : Array Value) (C : String) (fs : List Fl) : Prop := ∀ f ∈ fs, Laid Z a0 C f.1 f.2.1 f.2.2.1 ∧ ∃ ty, parseFieldDescriptor f.2.2.1 = some ty ∧ defaultValue ty = f.2.2.2
theorem Nw.nil {C : String} : Nw Z a0 C [] := fun _ q => nomatch q
theorem Nw.cons {C O n d : String} {v : Value} {fs : List Fl} (L : Laid Z a0 C O n d) {ty : FieldType} (h1 : parseFieldDescriptor d = some ty) (h2 : defaultValue ty = v) (r : Nw Z a0 C fs) : Nw Z a0 C ((O, n, d, v) :: fs) := fun f hf => by
  rcases List.mem_cons.mp hf with rfl | hf
  · exact ⟨L, ty, h1, h2⟩
  · exact r f hf
theorem Lay.of {C : String} {fs fs0 : List Fl} (nw : Nw Z a0 C fs0) (he : fs.map (fun f => (f.1, f.2.1, f.2.2.1)) = fs0.map (fun f => (f.1, f.2.1, f.2.2.1))) (hn : (fs0.map (fun f => f.2.1)).Nodup := by decide) : Lay Z fs := by
  have e : fs.map (fun f => Jvm.RoadKit.slotOf Z f.1 f.2.1 f.2.2.1) = fs0.map (fun f => Jvm.RoadKit.slotOf Z f.1 f.2.1 f.2.2.1) := by
    have q := congrArg (List.map fun g : String × String × String => Jvm.RoadKit.slotOf Z g.1 g.2.1 g.2.2) he
    simp only [List.map_map] at q
    exact q
  unfold Lay
  rw [e]
  clear e he
  induction fs0 with
  | nil => exact List.nodup_nil
  | cons f fs0 ih =>
    rw [List.map_cons, List.nodup_cons] at hn ⊢
    refine ⟨fun hm => ?_, ih (fun g hg => nw g (List.mem_cons_of_mem _ hg)) hn.2⟩
    obtain ⟨g, hg, eg⟩ := List.mem_map.mp hm
    obtain ⟨L1, t1, p1, -⟩ := nw f (List.mem_cons_self ..)
    obtain ⟨L2, t2, p2, -⟩ := nw g (List.mem_cons_of_mem _ hg)
    exact slot_ne L1 L2 (fun q => hn.1 (List.mem_map.mpr ⟨g, hg, q.symm⟩)) p1 p2 eg.symm
theorem cat_of {v : Value} (h : v.isRef = true) : v.category = 1 := by
  rcases ref_cases h with rfl | ⟨_, rfl⟩ <;> rfl
/-! from the words of a case -/
theorem st_ref {args : Array Value} {C n d k : String} (w : (Jvm.Cond.exactly (.static C n d) k).value args Z none Z [] = some true) (hi : (Jvm.Cond.initializedFor C n d).before args Z = true ∨ ((Jvm.Cond.initialized C).before args Z = true ∧ (Jvm.Cond.laysStatic C n d).before args Z = true)) :
    ∃ a, (Term.static C n d).eval args Z none [] Z = some (.ref a) ∧ Sta Z Z.heap C n d (.ref a) ∧ Exa Z Z.heap a k := by
  obtain ⟨x, e⟩ := exa_v w
  exact ⟨x, e, Sta.start e hi, Exa.start e w⟩
theorem fl_of {args : Array Value} {t : Term} {a : Addr} {C n d : String} {i : Int32} (e : t.eval args Z none [] Z = some (.ref a)) (w : (Jvm.Cond.eq (.field t C n d) (.int i)).value args Z none Z [] = some true) : Fld Z Z.heap a C n d (.int i) := by
  have e2 := fld_at (C := C) (n := n) (dd := d) e
  refine Fld.start ?_
  cases hq : Z.fieldOf? a C n d with
  | none => rw [hq] at e2; simp [Cond.value, e2] at w
  | some v =>
    rw [hq] at e2
    cases v <;> simp [Cond.value, e2, Term.int_eval] at w
    rw [w]
variable {cs : List (Addr × Pc)} {h' : Heap} {a : Addr} {sl : Nat} {v : Value}
theorem Ch.lt {b : Pc} (F : Ch Z h a b) : a < h.size := by
  rcases b with q | q
  · exact F.1.lt
  · obtain ⟨c, A, -⟩ := F; exact A.lt
theorem Ch.ext {b : Pc} (E : Ext h h') (F : Ch Z h a b) : Ch Z h' a b := by
  rcases b with q | q
  · exact ⟨F.1.ext E, fun f hf => (F.2 f hf).ext E⟩
  · obtain ⟨c, A, r⟩ := F; exact ⟨c, A.ext E, r⟩
theorem Ch.other {b : Pc} {x : Addr} (W : Wr h h' x sl v) (ne : a ≠ x) (F : Ch Z h a b) : Ch Z h' a b := by
  rcases b with q | q
  · exact ⟨F.1.wr W, fun f hf => (F.2 f hf).other W (Or.inl ne)⟩
  · obtain ⟨c, A, r⟩ := F; exact ⟨c, A.other W ne, r⟩
theorem HS.nil (Z : State) : HS Z Z.heap [] := ⟨⟨Nat.le_refl _, fun _ _ q => q⟩, fun _ q => (by cases q), List.nodup_nil⟩
theorem HS.at (H : HS Z h cs) {i : Nat} {b : Pc} (hi : cs[i]? = some (a, b)) : Z.heap.size ≤ a ∧ Ch Z h a b := H.2.1 _ (List.mem_of_getElem? hi)
theorem HS.exa (H : HS Z h cs) {i : Nat} {C : String} {fs : List Fl} (hi : cs[i]? = some (a, .inl (C, fs))) : Exa Z h a C := (H.at hi).2.1
theorem HS.fld (H : HS Z h cs) {i j : Nat} {C : String} {fs : List Fl} {O n d : String} (hi : cs[i]? = some (a, .inl (C, fs))) (hj : fs[j]? = some (O, n, d, v)) : Fld Z h a O n d v := (H.at hi).2.2 _ (List.mem_of_getElem? hj)
theorem HS.add (H : HS Z h cs) (E : Ext h h') {b : Pc} (F : Ch Z h' h.size b) : HS Z h' ((h.size, b) :: cs) := by
  refine ⟨⟨Nat.le_trans H.1.1 E.1, fun x c q => E.2 x c (H.1.2 x c q)⟩, fun q hq => ?_, ?_⟩
  · rcases List.mem_cons.mp hq with rfl | hq
    · exact ⟨H.1.1, F⟩
    · exact ⟨(H.2.1 q hq).1, (H.2.1 q hq).2.ext E⟩
  · refine List.nodup_cons.mpr ⟨fun hm => ?_, H.2.2⟩
    obtain ⟨q, hq, e⟩ := List.mem_map.mp hm
    have := (H.2.1 q hq).2.lt
    rw [e] at this
    exact Nat.lt_irrefl _ this
theorem nodup_set {α : Type} {L : List α} (h : L.Nodup) : ∀ {i j : Nat} {x : α}, L[i]? = some x → L[j]? = some x → i = j := fun {i j x} hi hj => (List.getElem?_inj (List.getElem?_eq_some_iff.mp hi).1 h).mp (hi.trans hj.symm)
theorem HS.set (H : HS Z h cs) {i : Nat} {b b' : Pc} (hi : cs[i]? = some (a, b)) (Wq : Wr h h' a sl v) (F : Ch Z h' a b') : HS Z h' (cs.set i (a, b')) := by
  have g := H.at hi
  refine ⟨⟨by rw [Wq.size]; exact H.1.1, fun x c q => ?_⟩, fun q hq => ?_, ?_⟩
  · obtain ⟨c', e1, -, -, -, e5, -⟩ := wr_at Wq (H.1.2 x c q)
    have ne : x ≠ a := fun e => by subst e; exact absurd (Array.getElem?_eq_some_iff.mp q).1 (Nat.not_lt.mpr g.1)
    rw [e5 ne] at e1; exact e1
  · obtain ⟨j, hj⟩ := List.mem_iff_getElem?.mp hq
    rw [List.getElem?_set] at hj
    split at hj
    · split at hj
      · cases hj; exact ⟨g.1, F⟩
      · cases hj
    · rename_i ne
      have m := H.2.1 q (List.mem_of_getElem? hj)
      refine ⟨m.1, m.2.other Wq fun e => ne ?_⟩
      refine nodup_set H.2.2 (x := a) (by simp [hi]) (by simp [hj, e])
  · have : ((cs.set i (a, b')).map fun q => q.1) = cs.map fun q => q.1 := by
      rw [List.map_set]
      refine List.ext_getElem? fun j => ?_
      rw [List.getElem?_set]
      split
      · rename_i e; subst e
        simp [hi]
        exact (List.getElem?_eq_some_iff.mp hi).1
      · rfl
    rw [this]; exact H.2.2
theorem HS.pull (H : HS Z h cs) (i : Nat) {q : Addr × Pc} (cs' : List (Addr × Pc)) (hi : cs[i]? = some q) (e : q :: cs.eraseIdx i = cs') : HS Z h cs' := by
  subst e
  obtain ⟨hlt, rfl⟩ := List.getElem?_eq_some_iff.mp hi
  have pm : (cs[i] :: cs.eraseIdx i).Perm cs := by
    rw [List.eraseIdx_eq_take_drop_succ]
    have e := List.take_append_drop i cs
    rw [List.drop_eq_getElem_cons hlt] at e
    exact List.perm_middle.symm.trans (List.Perm.of_eq e)
  exact ⟨H.1, fun q hq => H.2.1 q (pm.mem_iff.mp hq), (pm.map _).nodup_iff.mpr H.2.2⟩
theorem HS.drop (H : HS Z h cs) {cs' : List (Addr × Pc)} (s : cs'.Sublist cs) : HS Z h cs' := ⟨H.1, fun q hq => H.2.1 q (s.mem hq), H.2.2.sublist (s.map _)⟩
theorem HS.sta (H : HS Z h cs) {O n d : String} (S : Sta Z Z.heap O n d v) : Sta Z h O n d v := S.ext H.1
theorem HS.ne (H : HS Z h cs) {i j : Nat} {x : Addr} {b b' : Pc} (hi : cs[i]? = some (a, b)) (hj : cs[j]? = some (x, b')) (n : i ≠ j) : a ≠ x := fun e => n (nodup_set H.2.2 (x := a) (by simp [hi]) (by simp [hj, e]))
theorem HS.ne_old (H : HS Z h cs) {i : Nat} {x : Addr} {b : Pc} (hi : cs[i]? = some (a, b)) (hx : x < Z.heap.size) : a ≠ x := fun e => by subst e; exact absurd hx (Nat.not_lt.mpr (H.at hi).1)
theorem Ch.put {C O n d : String} {fs : List Fl} {j : Nat} {w : Value} (F : Ch Z h a (.inl (C, fs))) (hj : fs[j]? = some (O, n, d, w)) (lay : Lay Z fs) (Wq : Wr h h' a (Jvm.RoadKit.slotOf Z O n d) v) : Ch Z h' a (.inl (C, fs.set j (O, n, d, v))) := by
  refine ⟨F.1.wr Wq, fun f hf => ?_⟩
  obtain ⟨k, hk⟩ := List.mem_iff_getElem?.mp hf
  rw [List.getElem?_set] at hk
  split at hk
  · split at hk
    · cases hk; exact (F.2 _ (List.mem_of_getElem? hj)).same Wq
    · cases hk
  · rename_i ne
    refine (F.2 _ (List.mem_of_getElem? hk)).other Wq (Or.inr fun e => ne ?_)
    exact nodup_set lay (x := Jvm.RoadKit.slotOf Z O n d) (by simp [hj]) (by simp [hk, e])
theorem W.getF (ok : Ok Z K y code maxL ret) (tb : Tb Z a0 ts) {idx : Nat} {R0 O n d : String} (i1 : Nat) (w1 : ts[i1]? = some (.fieldLink y.cls idx R0 n d)) (via : Via Z R0 O n d) (F : Fld Z h a O n d v) (hd : decode code pc = .ok (.getfield idx, 3)) (pc' : Nat) (G : W l Z R K Q h cc ss pc' ls (v :: st)) (hp : pc + 3 = pc' := by rfl) :
    W l Z R K Q h cc ss pc ls (.ref a :: st) := by
  subst hp
  intro T L X N e
  obtain ⟨T', X', e', stp⟩ := Jvm.RoadKit.getF X ok.1 ok.2.1 ok.2.2.2.2.1 (host := "") (Or.inl (tb _ (List.mem_of_getElem? w1))) via e F (g := mkF K.m pc ls (.ref a :: st)) rfl rfl (hb ok.2.2.1 hd)
  exact Ends.step stp (G T' _ X' N e')
theorem W.getFN (ok : Ok Z K y code maxL ret) (tb : Tb Z a0 ts) {idx : Nat} {R0 O n d host : String} (i1 : Nat) (w1 : ts[i1]? = some (.fieldLinkNest y.cls idx R0 n d host)) (via : Via Z R0 O n d) (F : Fld Z h a O n d v) (hd : decode code pc = .ok (.getfield idx, 3)) (pc' : Nat) (G : W l Z R K Q h cc ss pc' ls (v :: st)) (hp : pc + 3 = pc' := by rfl) :
    W l Z R K Q h cc ss pc ls (.ref a :: st) := by
  subst hp
  intro T L X N e
  obtain ⟨T', X', e', stp⟩ := Jvm.RoadKit.getF X ok.1 ok.2.1 ok.2.2.2.2.1 (Or.inr (tb _ (List.mem_of_getElem? w1))) via e F (g := mkF K.m pc ls (.ref a :: st)) rfl rfl (hb ok.2.2.1 hd)
  exact Ends.step stp (G T' _ X' N e')
theorem W.getS (ok : Ok Z K y code maxL ret) (tb : Tb Z a0 ts) {idx : Nat} {R0 O n d : String} (i1 : Nat) (w1 : ts[i1]? = some (.fieldLink y.cls idx R0 n d)) (via : Via Z R0 O n d) (S : Sta Z h O n d v) (hd : decode code pc = .ok (.getstatic idx, 3)) (pc' : Nat) (G : W l Z R K Q h cc ss pc' ls (v :: st)) (hp : pc + 3 = pc' := by rfl) :
    W l Z R K Q h cc ss pc ls st := by
  subst hp
  intro T L X N e
  obtain ⟨T', X', e', stp⟩ := Jvm.RoadKit.getS X ok.1 ok.2.1 ok.2.2.2.2.1 (host := "") (tb _ (List.mem_of_getElem? w1)) via e S (g := mkF K.m pc ls st) rfl (hb ok.2.2.1 hd)
  exact Ends.step stp (G T' _ X' N e')
theorem W.getSN (ok : Ok Z K y code maxL ret) (tb : Tb Z a0 ts) {idx : Nat} {R0 O n d host : String} (i1 : Nat) (w1 : ts[i1]? = some (.fieldLinkNest y.cls idx R0 n d host)) (via : Via Z R0 O n d) (S : Sta Z h O n d v) (hd : decode code pc = .ok (.getstatic idx, 3)) (pc' : Nat) (G : W l Z R K Q h cc ss pc' ls (v :: st)) (hp : pc + 3 = pc' := by rfl) :
    W l Z R K Q h cc ss pc ls st := by
  subst hp
  intro T L X N e
  obtain ⟨T', X', e', stp⟩ := Jvm.RoadKit.getS2 X ok.1 ok.2.1 ok.2.2.2.2.1 (Or.inr (tb _ (List.mem_of_getElem? w1))) via e S (g := mkF K.m pc ls st) rfl (hb ok.2.2.1 hd)
  exact Ends.step stp (G T' _ X' N e')
/-- putfield into a piece; Lq: 'lays', or 'laysFinal' in a constructor -/
theorem W.putF (ok : Ok Z K y code maxL ret) (tb : Tb Z a0 ts) (H : HS Z h cs) {idx i j kk : Nat} {R0 C O n d : String} {fs : List Fl} {w0 w' : Value} {ty : FieldType} (hi : cs[i]? = some (a, .inl (C, fs))) (hj : fs[j]? = some (O, n, d, w0))
    (i1 i2 : Nat) (w1 : ts[i1]? = some (.fieldLink y.cls idx R0 n d)) (w2 : ts[i2]? = some (.instantiable C kk)) (via : Via Z R0 O n d) (Lq : (Jvm.Cond.lays C O n d).before a0 Z = true ∨ ((Jvm.Cond.laysFinal C O n d).before a0 Z = true ∧ y.cls = O ∧ y.name = "<init>")) (lay : Lay Z fs)
    (hty : parseFieldDescriptor d = some ty) (hn : narrow ty v = w') (hf : fits ty w' = true) (hd : decode code pc = .ok (.putfield idx, 3)) (pc' : Nat) (cs' : List (Addr × Pc)) (hcs : cs.set i (a, .inl (C, fs.set j (O, n, d, w'))) = cs') (G : ∀ h', HS Z h' cs' → W l Z R K Q h' cc ss pc' ls st) (hp : pc + 3 = pc' := by rfl) :
    W l Z R K Q h cc ss pc ls (v :: .ref a :: st) := by
  subst hp hcs
  intro T L X N e
  have g := H.at hi
  obtain ⟨T', h', X', e', W', stp⟩ := Jvm.RoadKit.putFN X ok.1 ok.2.1 ok.2.2.2.2.1 (tb _ (List.mem_of_getElem? w1)) via e (H.fld hi hj) (H.exa hi) (Lq.imp id fun q => ⟨q.1, q.2.1, ok.2.2.2.2.2.2.1.trans q.2.2⟩) (tb _ (List.mem_of_getElem? w2)) hty hn hf (g := mkF K.m pc ls (v :: .ref a :: st)) rfl rfl (hb ok.2.2.1 hd)
  exact Ends.step stp (G h' (H.set hi W' (g.2.put hj lay W')) T' _ X' (Fr.snoc X' N g.1) e')
theorem W.new (ok : Ok Z K y code maxL ret) (tb : Tb Z a0 ts) (H : HS Z h cs) {idx n : Nat} {C : String} (i1 i2 i3 : Nat) (w1 : ts[i1]? = some (.classLink y.cls idx C)) (w2 : ts[i2]? = some (.instantiable C n)) (w3 : ts[i3]? = some (.initialized C)) {fs : List Fl} (nw : Nw Z a0 C fs)
    (hd : decode code pc = .ok (.new idx, 3)) (cc' ss' pc' : Nat) (G : ∀ a h', HS Z h' ((a, .inl (C, fs)) :: cs) → W l Z R K Q h' cc' ss' pc' ls (.ref a :: st)) (hc : cc' ≤ R.cells := by decide) (hs : ss' ≤ R.slots := by decide) (hc' : cc + 1 = cc' := by rfl) (hs' : ss + n = ss' := by rfl) (hp : pc + 3 = pc' := by rfl) :
    W l Z R K Q h cc ss pc ls st := by
  subst hp hc' hs'
  intro T L X N e
  obtain ⟨T', h', X', e', E', A', D', -, stp⟩ := Jvm.RoadKit.newO X ok.1 ok.2.1 ok.2.2.2.2.1 (tb _ (List.mem_of_getElem? w1)) (tb _ (List.mem_of_getElem? w2)) (tb _ (List.mem_of_getElem? w3)) e (g := mkF K.m pc ls st) rfl (hb ok.2.2.1 hd) hc hs
  refine Ends.step stp (G h.size h' (H.add E' ⟨A', fun f hf => ?_⟩) T' _ X' N e')
  obtain ⟨L1, ty, t1, t2⟩ := nw f hf
  have q := D' L1 t1
  rw [t2] at q
  exact q
theorem len_eq {c : Cell} {vs : List Value} (e : c.slots.toList = vs) : c.slots.size = vs.length := by rw [← e]; simp
theorem at_eq {c : Cell} {vs : List Value} (e : c.slots.toList = vs) (k : Nat) : c.slots[k]? = vs[k]? := by rw [← e]; simp
theorem in_of {c : Cell} {vs : List Value} {j : Int32} (e : c.slots.toList = vs) (hj : ¬ j < 0) (hv : j.toNatClampNeg < vs.length) : ¬ (j < 0 ∨ c.slots.size ≤ j.toNatClampNeg) := by
  rw [len_eq e]; exact fun q => q.elim hj (by omega)
theorem lt_of_at {vs : List Value} {k : Nat} (hv : vs[k]? = some v) : k < vs.length := (List.getElem?_eq_some_iff.mp hv).1
theorem W.newP (ok : Ok Z K y code maxL ret) (tb : Tb Z a0 ts) (H : HS Z h cs) {aty : ArrayType} {n : Int32} (i1 : Nat) (w1 : ts[i1]? = some (.arrayClass (newarray.typeOf aty))) (hd : decode code pc = .ok (.newarray aty, 2)) (cap : Nat) (vs : List Value) (hvs : List.replicate n.toNatClampNeg (defaultValue (newarray.typeOf aty)) = vs) (cc' ss' pc' : Nat)
    (hn : ¬ n < 0) (hcap : n.toNatClampNeg ≤ cap) (G : ∀ a k h', HS Z h' ((a, .inr (newarray.typeOf aty, k, vs)) :: cs) → W l Z R K Q h' cc' ss' pc' ls (.ref a :: st))
    (hb' : cap * 8 ≤ 536870912 := by decide) (hc : cc' ≤ R.cells := by decide) (hs : ss' ≤ R.slots := by decide) (hc' : cc + 1 = cc' := by rfl) (hs' : ss + cap = ss' := by rfl) (hp : pc + 2 = pc' := by rfl) :
    W l Z R K Q h cc ss pc ls (.int n :: st) := by
  subst hp hc' hs' hvs
  intro T L X N e
  obtain ⟨T', h', k, X', e', E', A', stp⟩ := Jvm.RoadKit.newP X ok.1 ok.2.1 (tb _ (List.mem_of_getElem? w1)) e (g := mkF K.m pc ls (.int n :: st)) rfl (hb ok.2.2.1 hd) rfl hn hcap hb' hc hs
  exact Ends.step stp (G h.size k h' (H.add E' ⟨_, A', rfl, by simp [newA]⟩) T' _ X' N e')
theorem W.newR (ok : Ok Z K y code maxL ret) (tb : Tb Z a0 ts) (H : HS Z h cs) {idx : Nat} {C : String} {n : Int32} (i1 i2 : Nat) (w1 : ts[i1]? = some (.classLink y.cls idx C)) (w2 : ts[i2]? = some (.arrayOver (.object C))) (hd : decode code pc = .ok (.anewarray idx, 3)) (cap : Nat) (vs : List Value) (hvs : List.replicate n.toNatClampNeg Value.null = vs) (cc' ss' pc' : Nat)
    (hn : ¬ n < 0) (hcap : n.toNatClampNeg ≤ cap) (G : ∀ a k h', Ovr Z k C → HS Z h' ((a, .inr (.object C, k, vs)) :: cs) → W l Z R K Q h' cc' ss' pc' ls (.ref a :: st))
    (hb' : cap * 8 ≤ 536870912 := by decide) (hc : cc' ≤ R.cells := by decide) (hs : ss' ≤ R.slots := by decide) (hc' : cc + 1 = cc' := by rfl) (hs' : ss + cap = ss' := by rfl) (hp : pc + 3 = pc' := by rfl) :
    W l Z R K Q h cc ss pc ls (.int n :: st) := by
  subst hp hc' hs' hvs
  intro T L X N e
  obtain ⟨T', h', k, X', e', E', A', O', stp⟩ := Jvm.RoadKit.newR X ok.1 ok.2.1 ok.2.2.2.2.1 (tb _ (List.mem_of_getElem? w1)) (tb _ (List.mem_of_getElem? w2)) e (g := mkF K.m pc ls (.int n :: st)) rfl (hb ok.2.2.1 hd) rfl hn hcap hb' hc hs
  exact Ends.step stp (G h.size k h' O' (H.add E' ⟨_, A', rfl, by simp [newA, defaultValue]⟩) T' _ X' N e')
theorem W.alen (ok : Ok Z K y code maxL ret) (H : HS Z h cs) {i : Nat} {ty : FieldType} {k : ClassId} {vs : List Value} (hi : cs[i]? = some (a, .inr (ty, k, vs))) (hd : decode code pc = .ok (.arraylength, 1)) (pc' : Nat) (n : Int32) (hn : vs.length.toInt32 = n) (G : W l Z R K Q h cc ss pc' ls (.int n :: st)) (hp : pc + 1 = pc' := by rfl) :
    W l Z R K Q h cc ss pc ls (.ref a :: st) := by
  subst hp hn
  intro T L X N e
  obtain ⟨c, A, -, q⟩ := (H.at hi).2
  refine Ends.step (fun t kt => X.arraylength ok.1 (by rw [e]; exact A.1) (State.isArrayOf_alike ok.2.1.alike A.2.1) (g := mkF K.m pc ls (.ref a :: st)) rfl rfl (hb ok.2.2.1 hd) _ ?_) (G T _ X N e)
  rw [len_eq q]; exact kt
theorem W.iald (ok : Ok Z K y code maxL ret) (H : HS Z h cs) {i : Nat} {k : ClassId} {vs : List Value} {j : Int32} (hi : cs[i]? = some (a, .inr (.int, k, vs))) (hj : ¬ j < 0) (hv : vs[j.toNatClampNeg]? = some v) (hd : decode code pc = .ok (.iaload, 1)) (pc' : Nat) (G : W l Z R K Q h cc ss pc' ls (v :: st)) (hp : pc + 1 = pc' := by rfl) :
    W l Z R K Q h cc ss pc ls (.int j :: .ref a :: st) := by
  subst hp
  intro T L X N e
  obtain ⟨c, A, -, q⟩ := (H.at hi).2
  exact Ends.step (fun t kt => X.iaload ok.1 (j := j) (v := v) (by rw [e]; exact A.1) (State.isArrayOf_alike ok.2.1.alike A.2.1) A.2.2 (in_of q hj (lt_of_at hv)) ((at_eq q _).trans hv) (g := mkF K.m pc ls (.int j :: .ref a :: st)) rfl rfl (hb ok.2.2.1 hd) _ kt) (G T _ X N e)
theorem W.cald (ok : Ok Z K y code maxL ret) (H : HS Z h cs) {i : Nat} {k : ClassId} {vs : List Value} {j : Int32} (hi : cs[i]? = some (a, .inr (.char, k, vs))) (hj : ¬ j < 0) (hv : vs[j.toNatClampNeg]? = some v) (hd : decode code pc = .ok (.caload, 1)) (pc' : Nat) (G : W l Z R K Q h cc ss pc' ls (v :: st)) (hp : pc + 1 = pc' := by rfl) :
    W l Z R K Q h cc ss pc ls (.int j :: .ref a :: st) := by
  subst hp
  intro T L X N e
  obtain ⟨c, A, -, q⟩ := (H.at hi).2
  exact Ends.step (fun t kt => X.caload ok.1 (j := j) (v := v) (by rw [e]; exact A.1) (State.isArrayOf_alike ok.2.1.alike A.2.1) A.2.2 (in_of q hj (lt_of_at hv)) ((at_eq q _).trans hv) (g := mkF K.m pc ls (.int j :: .ref a :: st)) rfl rfl (hb ok.2.2.1 hd) _ kt) (G T _ X N e)
theorem W.bald (ok : Ok Z K y code maxL ret) (H : HS Z h cs) {i : Nat} {k : ClassId} {vs : List Value} {j : Int32} (hi : cs[i]? = some (a, .inr (.byte, k, vs))) (hj : ¬ j < 0) (hv : vs[j.toNatClampNeg]? = some v) (hd : decode code pc = .ok (.baload, 1)) (pc' : Nat) (G : W l Z R K Q h cc ss pc' ls (v :: st)) (hp : pc + 1 = pc' := by rfl) :
    W l Z R K Q h cc ss pc ls (.int j :: .ref a :: st) := by
  subst hp
  intro T L X N e
  obtain ⟨c, A, -, q⟩ := (H.at hi).2
  exact Ends.step (fun t kt => X.baloadBytes ok.1 (j := j) (v := v) (by rw [e]; exact A.1) (State.isArrayOf_alike ok.2.1.alike A.2.1) A.2.2 (in_of q hj (lt_of_at hv)) ((at_eq q _).trans hv) (g := mkF K.m pc ls (.int j :: .ref a :: st)) rfl rfl (hb ok.2.2.1 hd) _ kt) (G T _ X N e)
theorem W.zald (ok : Ok Z K y code maxL ret) (H : HS Z h cs) {i : Nat} {k : ClassId} {vs : List Value} {j : Int32} (hi : cs[i]? = some (a, .inr (.boolean, k, vs))) (hj : ¬ j < 0) (hv : vs[j.toNatClampNeg]? = some v) (hd : decode code pc = .ok (.baload, 1)) (pc' : Nat) (G : W l Z R K Q h cc ss pc' ls (v :: st)) (hp : pc + 1 = pc' := by rfl) :
    W l Z R K Q h cc ss pc ls (.int j :: .ref a :: st) := by
  subst hp
  intro T L X N e
  obtain ⟨c, A, -, q⟩ := (H.at hi).2
  exact Ends.step (fun t kt => X.baloadBooleans ok.1 (j := j) (v := v) (by rw [e]; exact A.1) (State.isArrayOf_alike ok.2.1.alike A.2.1) A.2.2 (in_of q hj (lt_of_at hv)) ((at_eq q _).trans hv) (g := mkF K.m pc ls (.int j :: .ref a :: st)) rfl rfl (hb ok.2.2.1 hd) _ kt) (G T _ X N e)
theorem W.aald (ok : Ok Z K y code maxL ret) (H : HS Z h cs) {i : Nat} {ty : FieldType} {k : ClassId} {vs : List Value} {j : Int32} (hi : cs[i]? = some (a, .inr (ty, k, vs))) (hj : ¬ j < 0) (hv : vs[j.toNatClampNeg]? = some v) (hd : decode code pc = .ok (.aaload, 1)) (pc' : Nat) (G : W l Z R K Q h cc ss pc' ls (v :: st)) (hty : ty.isReference = true := by rfl) (hp : pc + 1 = pc' := by rfl) :
    W l Z R K Q h cc ss pc ls (.int j :: .ref a :: st) := by
  subst hp
  intro T L X N e
  obtain ⟨c, A, -, q⟩ := (H.at hi).2
  exact Ends.step (fun t kt => X.aaload ok.1 (j := j) (v := v) (by rw [e]; exact A.1) (State.isArrayOf_alike ok.2.1.alike A.2.1) hty A.2.2 (in_of q hj (lt_of_at hv)) ((at_eq q _).trans hv) (g := mkF K.m pc ls (.int j :: .ref a :: st)) rfl rfl (hb ok.2.2.1 hd) _ kt) (G T _ X N e)
theorem Ch.aput {ty : FieldType} {k : ClassId} {vs : List Value} {n : Nat} {c : Cell} (A : Arr Z h a c ty) (e1 : c.cls = k) (e2 : c.slots.toList = vs) (Wq : Wr h h' a n v) : Ch Z h' a (.inr (ty, k, vs.set n v)) :=
  ⟨_, A.same Wq, e1, by subst e2; simp [Cell.setSlot]⟩
theorem W.iast (ok : Ok Z K y code maxL ret) (H : HS Z h cs) {i : Nat} {k : ClassId} {vs : List Value} {j x : Int32} (hi : cs[i]? = some (a, .inr (.int, k, vs))) (hj : ¬ j < 0) (hv : j.toNatClampNeg < vs.length) (hd : decode code pc = .ok (.iastore, 1)) (pc' : Nat) (cs' : List (Addr × Pc)) (hcs : cs.set i (a, .inr (.int, k, vs.set j.toNatClampNeg (.int x))) = cs') (G : ∀ h', HS Z h' cs' → W l Z R K Q h' cc ss pc' ls st) (hp : pc + 1 = pc' := by rfl) :
    W l Z R K Q h cc ss pc ls (.int x :: .int j :: .ref a :: st) := by
  subst hp hcs
  intro T L X N e
  have g := H.at hi
  obtain ⟨c, A, e1, e2⟩ := g.2
  obtain ⟨T', h', X', e', W', stp⟩ := Jvm.RoadKit.stI X ok.1 ok.2.1 e A (j := j) (in_of e2 hj hv) (g := mkF K.m pc ls (.int x :: .int j :: .ref a :: st)) rfl rfl (hb ok.2.2.1 hd)
  exact Ends.step stp (G h' (H.set hi W' (Ch.aput A e1 e2 W')) T' _ X' (Fr.snoc X' N g.1) e')
theorem W.cast (ok : Ok Z K y code maxL ret) (H : HS Z h cs) {i : Nat} {k : ClassId} {vs : List Value} {j x : Int32} (hi : cs[i]? = some (a, .inr (.char, k, vs))) (hj : ¬ j < 0) (hv : j.toNatClampNeg < vs.length) (w : Int32) (hw : (nar .char x) = w) (hd : decode code pc = .ok (.castore, 1)) (pc' : Nat) (cs' : List (Addr × Pc)) (hcs : cs.set i (a, .inr (.char, k, vs.set j.toNatClampNeg (.int w))) = cs') (G : ∀ h', HS Z h' cs' → W l Z R K Q h' cc ss pc' ls st) (hp : pc + 1 = pc' := by rfl) :
    W l Z R K Q h cc ss pc ls (.int x :: .int j :: .ref a :: st) := by
  subst hp hw hcs
  intro T L X N e
  have g := H.at hi
  obtain ⟨c, A, e1, e2⟩ := g.2
  obtain ⟨T', h', X', e', W', stp⟩ := Jvm.RoadKit.stC X ok.1 ok.2.1 e A (j := j) (in_of e2 hj hv) (g := mkF K.m pc ls (.int x :: .int j :: .ref a :: st)) rfl rfl (hb ok.2.2.1 hd)
  exact Ends.step stp (G h' (H.set hi W' (Ch.aput A e1 e2 W')) T' _ X' (Fr.snoc X' N g.1) e')
theorem W.bast (ok : Ok Z K y code maxL ret) (H : HS Z h cs) {i : Nat} {k : ClassId} {vs : List Value} {j x : Int32} (hi : cs[i]? = some (a, .inr (.byte, k, vs))) (hj : ¬ j < 0) (hv : j.toNatClampNeg < vs.length) (w : Int32) (hw : (nar .byte x) = w) (hd : decode code pc = .ok (.bastore, 1)) (pc' : Nat) (cs' : List (Addr × Pc)) (hcs : cs.set i (a, .inr (.byte, k, vs.set j.toNatClampNeg (.int w))) = cs') (G : ∀ h', HS Z h' cs' → W l Z R K Q h' cc ss pc' ls st) (hp : pc + 1 = pc' := by rfl) :
    W l Z R K Q h cc ss pc ls (.int x :: .int j :: .ref a :: st) := by
  subst hp hw hcs
  intro T L X N e
  have g := H.at hi
  obtain ⟨c, A, e1, e2⟩ := g.2
  obtain ⟨T', h', X', e', W', stp⟩ := Jvm.RoadKit.stB X ok.1 ok.2.1 e A (j := j) (in_of e2 hj hv) (g := mkF K.m pc ls (.int x :: .int j :: .ref a :: st)) rfl rfl (hb ok.2.2.1 hd)
  exact Ends.step stp (G h' (H.set hi W' (Ch.aput A e1 e2 W')) T' _ X' (Fr.snoc X' N g.1) e')
theorem W.zast (ok : Ok Z K y code maxL ret) (H : HS Z h cs) {i : Nat} {k : ClassId} {vs : List Value} {j x : Int32} (hi : cs[i]? = some (a, .inr (.boolean, k, vs))) (hj : ¬ j < 0) (hv : j.toNatClampNeg < vs.length) (w : Int32) (hw : (nar .boolean x) = w) (hd : decode code pc = .ok (.bastore, 1)) (pc' : Nat) (cs' : List (Addr × Pc)) (hcs : cs.set i (a, .inr (.boolean, k, vs.set j.toNatClampNeg (.int w))) = cs') (G : ∀ h', HS Z h' cs' → W l Z R K Q h' cc ss pc' ls st) (hp : pc + 1 = pc' := by rfl) :
    W l Z R K Q h cc ss pc ls (.int x :: .int j :: .ref a :: st) := by
  subst hp hw hcs
  intro T L X N e
  have g := H.at hi
  obtain ⟨c, A, e1, e2⟩ := g.2
  obtain ⟨T', h', X', e', W', stp⟩ := Jvm.RoadKit.stZ X ok.1 ok.2.1 e A (j := j) (in_of e2 hj hv) (g := mkF K.m pc ls (.int x :: .int j :: .ref a :: st)) rfl rfl (hb ok.2.2.1 hd)
  exact Ends.step stp (G h' (H.set hi W' (Ch.aput A e1 e2 W')) T' _ X' (Fr.snoc X' N g.1) e')
theorem W.aast (ok : Ok Z K y code maxL ret) (H : HS Z h cs) {i : Nat} {ty : FieldType} {k : ClassId} {vs : List Value} {j : Int32} (hi : cs[i]? = some (a, .inr (ty, k, vs))) (hj : ¬ j < 0) (hv : j.toNatClampNeg < vs.length) (S : Sto Z h a v) (hd : decode code pc = .ok (.aastore, 1)) (pc' : Nat) (cs' : List (Addr × Pc)) (hcs : cs.set i (a, .inr (ty, k, vs.set j.toNatClampNeg v)) = cs') (G : ∀ h', HS Z h' cs' → W l Z R K Q h' cc ss pc' ls st) (hty : ty.isReference = true := by rfl) (hp : pc + 1 = pc' := by rfl) :
    W l Z R K Q h cc ss pc ls (v :: .int j :: .ref a :: st) := by
  subst hp hcs
  intro T L X N e
  have g := H.at hi
  obtain ⟨c, A, e1, e2⟩ := g.2
  obtain ⟨T', h', X', e', W', stp⟩ := Jvm.RoadKit.stR X ok.1 ok.2.1 e A (j := j) (in_of e2 hj hv) hty S (g := mkF K.m pc ls (v :: .int j :: .ref a :: st)) rfl rfl (hb ok.2.2.1 hd)
  exact Ends.step stp (G h' (H.set hi W' (Ch.aput A e1 e2 W')) T' _ X' (Fr.snoc X' N g.1) e')
theorem HS.sto (H : HS Z h cs) {i : Nat} {ty : FieldType} {k : ClassId} {vs : List Value} {C : String} {x : Addr} (hi : cs[i]? = some (a, .inr (ty, k, vs))) (O : Ovr Z k C) (I : Ins Z h x C true) : Sto Z h a (.ref x) := by
  obtain ⟨c, A, e1, -⟩ := (H.at hi).2
  exact Sto.of A (e1 ▸ O) I
theorem W.castY (ok : Ok Z K y code maxL ret) (tb : Tb Z a0 ts) {idx : Nat} {C : String} (i1 : Nat) (w1 : ts[i1]? = some (.classLink y.cls idx C)) (F : Ins Z h a C true) (hd : decode code pc = .ok (.checkcast idx, 3)) (pc' : Nat) (G : W l Z R K Q h cc ss pc' ls (.ref a :: st)) (hp : pc + 3 = pc' := by rfl) :
    W l Z R K Q h cc ss pc ls (.ref a :: st) := by
  subst hp
  intro T L X N e
  obtain ⟨T', X', e', stp⟩ := Jvm.RoadKit.castY X ok.1 ok.2.1 ok.2.2.2.2.1 (tb _ (List.mem_of_getElem? w1)) e F (g := mkF K.m pc ls (.ref a :: st)) rfl rfl (hb ok.2.2.1 hd)
  exact Ends.step stp (G T' _ X' N e')
theorem W.instY (ok : Ok Z K y code maxL ret) (tb : Tb Z a0 ts) {idx : Nat} {C : String} (i1 : Nat) (w1 : ts[i1]? = some (.classLink y.cls idx C)) (F : Ins Z h a C true) (hd : decode code pc = .ok (.instanceof idx, 3)) (pc' : Nat) (G : W l Z R K Q h cc ss pc' ls (.int 1 :: st)) (hp : pc + 3 = pc' := by rfl) :
    W l Z R K Q h cc ss pc ls (.ref a :: st) := by
  subst hp
  intro T L X N e
  obtain ⟨T', X', e', stp⟩ := Jvm.RoadKit.instY X ok.1 ok.2.1 ok.2.2.2.2.1 (tb _ (List.mem_of_getElem? w1)) e F (g := mkF K.m pc ls (.ref a :: st)) rfl rfl (hb ok.2.2.1 hd)
  exact Ends.step stp (G T' _ X' N e')
theorem W.castN (ok : Ok Z K y code maxL ret) {idx : Nat} (hd : decode code pc = .ok (.checkcast idx, 3)) (pc' : Nat) (G : W l Z R K Q h cc ss pc' ls (.null :: st)) (hp : pc + 3 = pc' := by rfl) : W l Z R K Q h cc ss pc ls (.null :: st) := by
  subst hp
  exact fun T L X N e => Ends.step (fun t k => X.checkcastNull ok.1 (g := mkF K.m pc ls (.null :: st)) rfl rfl (hb ok.2.2.1 hd) _ k) (G T L X N e)
theorem W.instN (ok : Ok Z K y code maxL ret) {idx : Nat} (hd : decode code pc = .ok (.instanceof idx, 3)) (pc' : Nat) (G : W l Z R K Q h cc ss pc' ls (.int 0 :: st)) (hp : pc + 3 = pc' := by rfl) : W l Z R K Q h cc ss pc ls (.null :: st) := by
  subst hp
  exact fun T L X N e => Ends.step (fun t k => X.instanceofNull ok.1 (g := mkF K.m pc ls (.null :: st)) rfl rfl (hb ok.2.2.1 hd) _ k) (G T L X N e)
end Walk
end Jvm.Own
namespace Jvm.Own
open Sem ClassFile Op Lib Jvm.Stand Jvm.Free Jvm.LawKit Jvm.RoadKit
section More
variable {l : Launch} {Z : State} {R : Room} {K : Ctx} {Q : Option Value → Heap → Prop} {h : Heap} {cc ss pc : Nat} {ls : Array Slot} {st : List Value} {y : MethodName} {code : ByteArray} {maxL : Nat} {ret : Option FieldType} {a0 : Array Value} {ts : List Jvm.Cond} {cs : List (Addr × Pc)} {h' : Heap} {a : Addr} {sl : Nat} {v : Value}
theorem HS.upd (H : HS Z h cs) {i : Nat} {b b' : Pc} (hi : cs[i]? = some (a, b)) (hE : Ext Z.heap h') (ho : ∀ q ∈ cs, q.1 ≠ a → Ch Z h' q.1 q.2) (F : Ch Z h' a b') : HS Z h' (cs.set i (a, b')) := by
  have g := H.at hi
  refine ⟨hE, fun q hq => ?_, ?_⟩
  · obtain ⟨j, hj⟩ := List.mem_iff_getElem?.mp hq
    rw [List.getElem?_set] at hj
    split at hj
    · split at hj
      · cases hj; exact ⟨g.1, F⟩
      · cases hj
    · rename_i ne
      have m := H.2.1 q (List.mem_of_getElem? hj)
      refine ⟨m.1, ho q (List.mem_of_getElem? hj) fun e => ne ?_⟩
      refine nodup_set H.2.2 (x := a) (by simp [hi]) (by simp [hj, e])
  · have : ((cs.set i (a, b')).map fun q => q.1) = cs.map fun q => q.1 := by
      rw [List.map_set]
      refine List.ext_getElem? fun j => ?_
      rw [List.getElem?_set]
      split
      · rename_i e; subst e
        simp [hi]
        exact (List.getElem?_eq_some_iff.mp hi).1
      · rfl
    rw [this]; exact H.2.2
theorem Ch.keep {b : Pc} {ws : List Addr} (Kp : Keep h h' ws) (ne : a ∉ ws) (F : Ch Z h a b) : Ch Z h' a b := by
  rcases b with q | q
  · exact ⟨F.1.keep Kp, fun f hf => (F.2 f hf).keep Kp ne⟩
  · obtain ⟨c, A, r⟩ := F; exact ⟨c, ⟨Kp.2.1 a c A.1 ne, A.2⟩, r⟩
theorem Ch.arv {ty : FieldType} {k : ClassId} {vs : List Value} (F : Ch Z h a (.inr (ty, k, vs))) (hl : vs.length < 2 ^ 31) (hf : ∀ v ∈ vs, fits ty v = true) (d : Value) : Arv Z h a k ty vs.length.toInt32 vs d := by
  obtain ⟨c, A, e1, e2⟩ := F
  have e2 : c.slots.toList = vs := e2
  have hz : (vs.length.toInt32).toInt = (vs.length : Int) := len_toInt hl
  refine ⟨c, A, e1, ?_, ?_, ?_, ?_⟩
  · rw [len_eq e2, Int32.toNatClampNeg]; omega
  · rw [Int32.lt_iff_toInt_lt]; simp only [Int32.reduceToInt]; omega
  · intro i hi
    rw [at_eq e2, List.getD_eq_getElem?_getD]
    rw [len_eq e2] at hi
    simp [List.getElem?_eq_getElem hi]
  · intro i hi
    rw [len_eq e2] at hi
    rw [List.getD_eq_getElem?_getD, List.getElem?_eq_getElem hi]
    exact hf _ (List.getElem_mem hi)
theorem Ch.of_arv {ty : FieldType} {k : ClassId} {n : Int32} {vs : List Value} {d : Value} (F : Arv Z h a k ty n vs d) (hl : n.toNatClampNeg = vs.length) : Ch Z h a (.inr (ty, k, vs)) := by
  obtain ⟨c, A, e1, e2, -, hH, -⟩ := F
  refine ⟨c, A, e1, ?_⟩
  show c.slots.toList = vs
  refine List.ext_getElem? fun i => ?_
  by_cases hi : i < c.slots.size
  · have q := hH i hi
    have hv : i < vs.length := by omega
    rw [List.getD_eq_getElem?_getD, List.getElem?_eq_getElem hv] at q
    rw [List.getElem?_eq_getElem hv]
    simpa using q
  · rw [List.getElem?_eq_none (by simpa using hi), List.getElem?_eq_none (by omega)]
theorem W.acopy (ok : Ok Z K y code maxL ret) (tb : Tb Z a0 ts) (H : HS Z h cs) {idx i j : Nat} {b : Addr} {ty ty' : FieldType} {k k' : ClassId} {vs vd : List Value} {sp dp nn : Int32} (hi : cs[i]? = some (a, .inr (ty, k, vs))) (hj : cs[j]? = some (b, .inr (ty', k', vd)))
    (i1 i2 i3 i4 : Nat) (w1 : ts[i1]? = some (.methodLink y.cls idx Jvm.Stand.acN)) (w2 : ts[i2]? = some (.native Jvm.Stand.acN)) (w3 : ts[i3]? = some (.static Jvm.Stand.acN)) (w4 : ts[i4]? = some (.initialized "java/lang/System"))
    (us : List Value) (hr : (ty = ty' ∧ refKind ty = false) ∨ (refKind ty = true ∧ refKind ty' = true ∧ StoL Z h b us)) (h1 : ¬ sp < 0) (h2 : ¬ dp < 0) (h3 : ¬ nn < 0) (h4 : sp.toNatClampNeg + nn.toNatClampNeg ≤ vs.length) (h5 : dp.toNatClampNeg + nn.toNatClampNeg ≤ vd.length)
    (hus : us = (List.range nn.toNatClampNeg).map fun t => vs.getD (sp.toNatClampNeg + t) .null) (hls : vs.length < 2 ^ 31) (hld : vd.length < 2 ^ 31) (hfs : ∀ v ∈ vs, fits ty v = true) (hfd : ∀ v ∈ vd, fits ty' v = true)
    (hd : decode code pc = .ok (.invokestatic idx, 3)) (wgt pc' : Nat) (cs' : List (Addr × Pc)) (hcs : cs.set j (b, .inr (ty', k', vd.take dp.toNatClampNeg ++ us ++ vd.drop (dp.toNatClampNeg + nn.toNatClampNeg))) = cs') (G : ∀ h', HS Z h' cs' → W l Z R K Q h' cc ss pc' ls st)
    (hW : (st.map fun v => v.category).sum ≤ wgt := by exact Nat.le_refl _) (hf : 1 ≤ R.frames := by decide) (hlo : wgt + (nativeFrameWords "java/lang/System" "arraycopy" 5 + 11) ≤ R.locals := by decide) (hsz : ls.size = maxL := by rfl) (hp : pc + 3 = pc' := by rfl) :
    W l Z R K Q h cc ss pc ls (.int nn :: .int dp :: .ref b :: .int sp :: .ref a :: st) := by
  subst hp hcs
  intro T L X N e
  have zs : (vs.length.toInt32).toNatClampNeg = vs.length := by have := len_toInt hls; rw [Int32.toNatClampNeg]; omega
  have zd : (vd.length.toInt32).toNatClampNeg = vd.length := by have := len_toInt hld; rw [Int32.toNatClampNeg]; omega
  obtain ⟨T', h', L', X', e', N', Kp, A', stp⟩ := Jvm.RoadKit.cpA X ok.1 ok.2.1 ok.2.2.2.2.1 (tb _ (List.mem_of_getElem? w1)) (tb _ (List.mem_of_getElem? w2)) (tb _ (List.mem_of_getElem? w3)) (tb _ (List.mem_of_getElem? w4)) e
    ((H.at hi).2.arv hls hfs .null) ((H.at hj).2.arv hld hfd .null) hr h1 h2 h3 (by rw [zs]; exact h4) (by rw [zd]; exact h5) hus h5 N (H.at hj).1 (g := mkF K.m pc ls (.int nn :: .int dp :: .ref b :: .int sp :: .ref a :: st)) rfl (hsz.trans ok.2.2.2.1.symm) rfl (hb ok.2.2.1 hd) hf (W := wgt) (by simpa using hW) hlo
  have hlen : us.length = nn.toNatClampNeg := by rw [hus]; simp
  have gb := (H.at hj).1
  refine Ends.step stp (G h' (H.upd hj ⟨Nat.le_trans H.1.1 Kp.1, fun x c q => Kp.2.1 x c (H.1.2 x c q) fun hm => ?_⟩ (fun q hq ne => (H.2.1 q hq).2.keep Kp (fun hm => ne (List.mem_singleton.mp hm))) (Ch.of_arv A' ?_)) T' _ X' N' e')
  · rw [List.mem_singleton] at hm
    subst hm
    exact absurd (Array.getElem?_eq_some_iff.mp q).1 (Nat.not_lt.mpr gb)
  · rw [zd]; simp [hlen]; omega
/-- a new array of references, with its class's name -/
theorem W.newRE (ok : Ok Z K y code maxL ret) (tb : Tb Z a0 ts) (H : HS Z h cs) {idx : Nat} {C ad : String} {n : Int32} (i1 i2 : Nat) (w1 : ts[i1]? = some (.classLink y.cls idx C)) (w2 : ts[i2]? = some (.arrayOver (.object C))) (hd : decode code pc = .ok (.anewarray idx, 3)) (cap : Nat) (vs : List Value) (hvs : List.replicate n.toNatClampNeg Value.null = vs) (cc' ss' pc' : Nat)
    (hn : ¬ n < 0) (hcap : n.toNatClampNeg ≤ cap) (had : "[" ++ (FieldType.object C).toString = ad) (G : ∀ a k h', Ovr Z k C → Z.vm.findClass ad = some k → HS Z h' ((a, .inr (.object C, k, vs)) :: cs) → W l Z R K Q h' cc' ss' pc' ls (.ref a :: st))
    (hb' : cap * 8 ≤ 536870912 := by decide) (hc : cc' ≤ R.cells := by decide) (hs : ss' ≤ R.slots := by decide) (hc' : cc + 1 = cc' := by rfl) (hs' : ss + cap = ss' := by rfl) (hp : pc + 3 = pc' := by rfl) :
    W l Z R K Q h cc ss pc ls (.int n :: st) := by
  subst hp hc' hs' hvs
  intro T L X N e
  obtain ⟨T', h', k, X', e', E', A', Ex, O', stp⟩ := Jvm.RoadKit.newRE X ok.1 ok.2.1 ok.2.2.2.2.1 (tb _ (List.mem_of_getElem? w1)) (tb _ (List.mem_of_getElem? w2)) e (g := mkF K.m pc ls (.int n :: st)) rfl (hb ok.2.2.1 hd) rfl hn hcap hb' hc hs had
  obtain ⟨cell, kc, q1, q2, -⟩ := Ex
  cases A'.1.symm.trans q1
  exact Ends.step stp (G h.size k h' O' q2 (H.add E' ⟨_, A', rfl, by simp [newA, defaultValue]⟩) T' _ X' N e')
theorem HS.exaA (H : HS Z h cs) {i : Nat} {ty : FieldType} {k : ClassId} {vs : List Value} {C : String} (hi : cs[i]? = some (a, .inr (ty, k, vs))) (hk : Z.vm.findClass C = some k) : Exa Z h a C := by
  obtain ⟨c, A, e1, -⟩ := (H.at hi).2
  obtain ⟨h1, k2, h2, comp, h3⟩ := A.2.1
  exact ⟨c, k2, A.1, by rw [e1]; exact hk, h2, A.plain, fun q => by rw [h3] at q; cases q⟩
def Mr (Z : State) (C : String) (mr : Addr) : Prop := ∃ (c : ClassId) (k : Class), Z.vm.findClass C = some c ∧ Z.vm.classes[c]? = some k ∧ k.mirror = some mr
theorem W.gcls (ok : Ok Z K y code maxL ret) (tb : Tb Z a0 ts) {idx : Nat} {C : String} {mr : Addr} (i1 i2 i3 i4 i5 : Nat) (w1 : ts[i1]? = some (.methodLink y.cls idx Jvm.Stand.gcN)) (w2 : ts[i2]? = some (.declares Jvm.Stand.gcN)) (w3 : ts[i3]? = some (.selects C Jvm.Stand.gcN Jvm.Stand.gcN)) (w4 : ts[i4]? = some (.instanceMethod Jvm.Stand.gcN)) (w5 : ts[i5]? = some (.native Jvm.Stand.gcN))
    (E : Exa Z h a C) (M : Mr Z C mr) (hd : decode code pc = .ok (.invokevirtual idx, 3)) (wgt pc' : Nat) (G : W l Z R K Q h cc ss pc' ls (.ref mr :: st))
    (hW : (st.map fun v => v.category).sum ≤ wgt := by exact Nat.le_refl _) (hf : 1 ≤ R.frames := by decide) (hlo : wgt + (nativeFrameWords "java/lang/Object" "getClass" 1 + 11) ≤ R.locals := by decide) (hsz : ls.size = maxL := by rfl) (hp : pc + 3 = pc' := by rfl) :
    W l Z R K Q h cc ss pc ls (.ref a :: st) := by
  subst hp
  intro T L X N e
  obtain ⟨cB, kB, i1, i2, i3⟩ := isOf (T := T) ok.2.1 e E
  obtain ⟨cc', kc, m1, m2, m3⟩ := M
  have i1' := i1
  rw [ok.2.1.alike.findClass] at i1'
  cases i1'.symm.trans m1
  obtain ⟨k', q, ek⟩ := ok.2.1.alike.2.2 _ _ m2
  obtain ⟨vm', X', stp⟩ := X.getClassOf ok.1 ok.2.2.2.2.1 (mvT ok.2.1 (tb _ (List.mem_of_getElem? w1))) (mvT ok.2.1 (tb _ (List.mem_of_getElem? w2))) (notFace_of_selects (args := #[]) (mvT ok.2.1 (tb _ (List.mem_of_getElem? w3)))) (mvT ok.2.1 (tb _ (List.mem_of_getElem? w3))) (mvT ok.2.1 (tb _ (List.mem_of_getElem? w4))) (mvT ok.2.1 (tb _ (List.mem_of_getElem? w5))) i1 i3 q (by rw [ek]; exact m3) (g := mkF K.m pc ls (.ref a :: st)) rfl (hsz.trans ok.2.2.2.1.symm) rfl (hb ok.2.2.1 hd) hf (by simp only [Nat.mul_zero, Nat.zero_add]; exact Nat.le_trans (Nat.add_le_add_right hW _) hlo)
  exact Ends.step stp (G _ _ X' N e)
theorem W.ldcM (ok : Ok Z K y code maxL ret) (tb : Tb Z a0 ts) {idx : Nat} {C : String} {mr : Addr} (i1 : Nat) (w1 : ts[i1]? = some (.classLink y.cls idx C)) (M : Mr Z C mr) (hd : decode code pc = .ok (.ldc idx, 2)) (pc' : Nat) (G : W l Z R K Q h cc ss pc' ls (.ref mr :: st)) (hp : pc + 2 = pc' := by rfl) :
    W l Z R K Q h cc ss pc ls st := by
  subst hp
  intro T L X N e
  obtain ⟨cc', kc, m1, m2, m3⟩ := M
  obtain ⟨k', q, ek⟩ := ok.2.1.alike.2.2 _ _ m2
  have f1 : K.s.vm.findClass C = some cc' := by rw [ok.2.1.alike.findClass]; exact m1
  have f2 : k'.mirror = some mr := by rw [ek]; exact m3
  have ev : (Term.mirror C).eval K.args K.s none [] K.s = some (.ref mr) := by simp [Term.eval, f1, q, f2]
  obtain ⟨vm', X', stp⟩ := X.ldcMirror ok.1 ok.2.2.2.2.1 (mvT ok.2.1 (tb _ (List.mem_of_getElem? w1))) ev (g := mkF K.m pc ls st) rfl (hb ok.2.2.1 hd)
  exact Ends.step stp (G _ _ X' N e)
theorem W.alenA (ok : Ok Z K y code maxL ret) {c : Cell} {ty : FieldType} (A : RoadKit.Arr Z h a c ty) (hd : decode code pc = .ok (.arraylength, 1)) (pc' : Nat) (n : Int32) (hn : c.slots.size.toInt32 = n) (G : W l Z R K Q h cc ss pc' ls (.int n :: st)) (hp : pc + 1 = pc' := by rfl) :
    W l Z R K Q h cc ss pc ls (.ref a :: st) := by
  subst hp hn
  intro T L X N e
  exact Ends.step (fun t kt => X.arraylength ok.1 (by rw [e]; exact A.1) (State.isArrayOf_alike ok.2.1.alike A.2.1) (g := mkF K.m pc ls (.ref a :: st)) rfl rfl (hb ok.2.2.1 hd) _ kt) (G T _ X N e)
theorem W.aaldA (ok : Ok Z K y code maxL ret) {c : Cell} {ty : FieldType} {j : Int32} (A : RoadKit.Arr Z h a c ty) (hj : ¬ (j < 0 ∨ c.slots.size ≤ j.toNatClampNeg)) (hv : c.slots[j.toNatClampNeg]? = some v) (hd : decode code pc = .ok (.aaload, 1)) (pc' : Nat) (G : W l Z R K Q h cc ss pc' ls (v :: st)) (hty : ty.isReference = true := by rfl) (hp : pc + 1 = pc' := by rfl) :
    W l Z R K Q h cc ss pc ls (.int j :: .ref a :: st) := by
  subst hp
  intro T L X N e
  exact Ends.step (fun t kt => X.aaload ok.1 (j := j) (v := v) (by rw [e]; exact A.1) (State.isArrayOf_alike ok.2.1.alike A.2.1) hty A.2.2 hj hv (g := mkF K.m pc ls (.int j :: .ref a :: st)) rfl rfl (hb ok.2.2.1 hd) _ kt) (G T _ X N e)
end More
end Jvm.Own
namespace Jvm.Own
open Sem ClassFile Op Lib Jvm.Stand Jvm.Free Jvm.LawKit Jvm.RoadKit
/-! plain part: linear probing -/
def tab (n : Nat) (f : Nat → Value) : List Value := (List.range n).map f
theorem tab_len (n : Nat) (f : Nat → Value) : (tab n f).length = n := by simp [tab]
theorem tab_get {n j : Nat} {f : Nat → Value} (h : j < n) : (tab n f)[j]? = some (f j) := by simp [tab, h]
theorem tab_set {n j : Nat} {f : Nat → Value} (v : Value) : (tab n f).set j v = tab n (fun i => if i = j then v else f i) := by
  refine List.ext_getElem? fun i => ?_
  rw [List.getElem?_set]
  by_cases hi : i < n
  · by_cases e : j = i
    · subst e; rw [if_pos rfl, if_pos (by rw [tab_len]; exact hi), tab_get hi, if_pos rfl]
    · rw [if_neg e, tab_get hi, tab_get hi, if_neg (fun q => e q.symm)]
  · have h1 : (tab n (fun i => if i = j then v else f i))[i]? = none := List.getElem?_eq_none (by rw [tab_len]; omega)
    have h2 : (tab n f)[i]? = none := List.getElem?_eq_none (by rw [tab_len]; omega)
    rw [h1, h2]
    split
    · rename_i e
      subst e
      simp [tab_len, hi]
    · rfl
theorem ix {j : Nat} (h : j < 2 ^ 31) : j.toInt32.toNatClampNeg = j ∧ ¬ (j.toInt32 < 0) := by
  have q : j.toInt32.toInt = j := len_toInt h
  refine ⟨by rw [Int32.toNatClampNeg, q]; simp, ?_⟩
  rw [Int32.lt_iff_toInt_lt, q]; simp only [Int32.reduceToInt]; omega
def hx (key : Int32) : Int32 := key
def mk (n : Nat) : Int32 := n.toInt32 - 1
def s0 (n : Nat) (key : Int32) : Nat := (hx key &&& mk n).toNatClampNeg
def pr (n s d : Nat) : Nat := (s + d) % n
theorem s0_spec {n : Nat} (hn : n = 4 ∨ n = 8 ∨ n = 16) (key : Int32) : hx key &&& mk n = (pr n (s0 n key) 0).toInt32 ∧ s0 n key < n := by
  have hm : 0 ≤ (mk n).toInt ∧ (mk n).toInt < n := by rcases hn with rfl | rfl | rfl <;> decide
  have h := c_and (hx key) (mk n) hm.1
  have hlt : s0 n key < n := by unfold s0; rw [Int32.toNatClampNeg]; omega
  refine ⟨?_, hlt⟩
  rw [pr, Nat.add_zero, Nat.mod_eq_of_lt hlt]
  refine Int32.toInt_inj.mp ?_
  rw [len_toInt (by rcases hn with rfl | rfl | rfl <;> omega)]
  unfold s0
  rw [Int32.toNatClampNeg]
  omega
theorem nx {n : Nat} (hn : n = 4 ∨ n = 8 ∨ n = 16) (s d : Nat) : ((pr n s d).toInt32 + 1) &&& mk n = (pr n s (d + 1)).toInt32 := by
  have e : pr n s (d + 1) = (pr n s d + 1) % n := by unfold pr; rw [← Nat.add_assoc, Nat.add_mod (s + d) 1, Nat.add_mod ((s + d) % n) 1, Nat.mod_mod]
  rw [e]
  have hj : pr n s d < n := Nat.mod_lt _ (by rcases hn with rfl | rfl | rfl <;> decide)
  generalize pr n s d = j at hj
  rcases hn with rfl | rfl | rfl
  · revert j; decide +kernel
  · revert j; decide +kernel
  · revert j; decide +kernel
theorem pr_lt {n : Nat} (hn : n = 4 ∨ n = 8 ∨ n = 16) (s d : Nat) : pr n s d < n := Nat.mod_lt _ (by rcases hn with rfl | rfl | rfl <;> decide)
theorem lt31 {n j : Nat} (hn : n = 4 ∨ n = 8 ∨ n = 16) (h : j < n) : j < 2 ^ 31 := by rcases hn with rfl | rfl | rfl <;> omega
def stp (K : Nat → Int32) (H : Nat → Bool) (key : Int32) (j : Nat) : Prop := H j = false ∨ K j = key
/-- D is the first stop on key's road -/
def Fst (n : Nat) (K : Nat → Int32) (H : Nat → Bool) (key : Int32) (D : Nat) : Prop := D < n ∧ stp K H key (pr n (s0 n key) D) ∧ ∀ d, d < D → H (pr n (s0 n key) d) = true ∧ ¬ (K (pr n (s0 n key) d) = key)
def Inv (n : Nat) (K : Nat → Int32) (H : Nat → Bool) : Prop := ∀ j, j < n → H j = true → ∃ d, d < n ∧ pr n (s0 n (K j)) d = j ∧ ∀ d', d' < d → H (pr n (s0 n (K j)) d') = true ∧ ¬ (K (pr n (s0 n (K j)) d') = K j)
def cnt (n : Nat) (H : Nat → Bool) : Nat := ((List.range n).filter H).length
theorem free_of {n : Nat} {H : Nat → Bool} (h : cnt n H < n) : ∃ j, j < n ∧ H j = false := by
  by_cases q : ∃ j, j < n ∧ H j = false
  · exact q
  · exfalso
    have : (List.range n).filter H = List.range n := List.filter_eq_self.mpr fun j hj => by
      cases e : H j
      · exact absurd ⟨j, List.mem_range.mp hj, e⟩ q
      · rfl
    unfold cnt at h; rw [this] at h; simp at h
theorem cnt_set {n j : Nat} {H : Nat → Bool} : cnt n (fun i => if i = j then true else H i) ≤ cnt n H + 1 := by
  unfold cnt
  have gj : (fun i => if i = j then true else H i) j = true := if_pos rfl
  have gi : ∀ i, i ≠ j → (fun i => if i = j then true else H i) i = H i := fun i e => if_neg e
  generalize (fun i => if i = j then true else H i) = g at gj gi
  have key : ∀ L : List Nat, L.Nodup → (L.filter g).length ≤ (L.filter H).length + 1 ∧ (j ∉ L → (L.filter g).length = (L.filter H).length) := by
    intro L
    induction L with
    | nil => intro _; simp
    | cons a L ih =>
      intro hn
      rw [List.nodup_cons] at hn
      obtain ⟨i1, i2⟩ := ih hn.2
      by_cases e : a = j
      · subst e
        have i3 := i2 hn.1
        refine ⟨?_, fun q => absurd (List.mem_cons_self ..) q⟩
        rw [List.filter_cons, List.filter_cons, if_pos gj]
        by_cases hh : H a = true
        · rw [if_pos hh]; simp only [List.length_cons]; omega
        · rw [if_neg hh]; simp only [List.length_cons]; omega
      · have ga := gi a e
        rw [List.filter_cons, List.filter_cons, ga]
        refine ⟨?_, fun q => ?_⟩
        · by_cases hh : H a = true
          · rw [if_pos hh, if_pos hh]; simp only [List.length_cons]; omega
          · rw [if_neg hh, if_neg hh]; exact i1
        · have i3 := i2 fun z => q (List.mem_cons_of_mem _ z)
          by_cases hh : H a = true
          · rw [if_pos hh, if_pos hh]; simp only [List.length_cons]; omega
          · rw [if_neg hh, if_neg hh]; exact i3
  exact (key _ List.nodup_range).1
theorem least {P : Nat → Prop} {n : Nat} (h : ∃ d, d < n ∧ P d) : ∃ d, d < n ∧ P d ∧ ∀ d', d' < d → ¬ P d' := by
  obtain ⟨d, h1, h2⟩ := h
  have key : ∀ k d, d ≤ k → P d → ∃ d0, d0 ≤ d ∧ P d0 ∧ ∀ d', d' < d0 → ¬ P d' := by
    intro k
    induction k with
    | zero => intro d hd hp; exact ⟨d, Nat.le_refl _, hp, fun d' h => by omega⟩
    | succ k ih =>
      intro d hd hp
      by_cases q : ∃ d', d' < d ∧ P d'
      · obtain ⟨d', a, b⟩ := q
        obtain ⟨d0, e1, e2, e3⟩ := ih d' (by omega) b
        exact ⟨d0, by omega, e2, e3⟩
      · exact ⟨d, Nat.le_refl _, hp, fun d' h hp' => q ⟨d', h, hp'⟩⟩
  obtain ⟨d0, e1, e2, e3⟩ := key d d (Nat.le_refl _) h2
  exact ⟨d0, by omega, e2, e3⟩
theorem fst_ex {n : Nat} (hn : n = 4 ∨ n = 8 ∨ n = 16) {K : Nat → Int32} {H : Nat → Bool} (hc : cnt n H < n) (key : Int32) : ∃ D, Fst n K H key D := by
  obtain ⟨j, hj, hf⟩ := free_of hc
  have hs := (s0_spec hn key).2
  have hp : pr n (s0 n key) ((j + n - s0 n key) % n) = j := by
    unfold pr
    rw [Nat.add_mod, Nat.mod_mod, ← Nat.add_mod]
    have : s0 n key + (j + n - s0 n key) = j + n := by omega
    rw [this, Nat.add_mod_right, Nat.mod_eq_of_lt hj]
  obtain ⟨d, h1, h2, h3⟩ := least (P := fun d => stp K H key (pr n (s0 n key) d)) ⟨(j + n - s0 n key) % n, Nat.mod_lt _ (by omega), by show stp _ _ _ _; rw [hp]; exact Or.inl hf⟩
  refine ⟨d, h1, h2, fun d' hd => ?_⟩
  have q := h3 d' hd
  unfold stp at q
  constructor
  · cases e : H (pr n (s0 n key) d')
    · exact absurd (Or.inl e) q
    · rfl
  · exact fun z => q (Or.inr z)
/-- at a free first stop no held place bears the key -/
theorem fst_free {n : Nat} {K : Nat → Int32} {H : Nat → Bool} {key : Int32} {D : Nat} (I : Inv n K H) (F : Fst n K H key D) (hf : H (pr n (s0 n key) D) = false) : ∀ j, j < n → H j = true → ¬ (K j = key) := by
  intro j hj hh e
  obtain ⟨d, h1, h2, h3⟩ := I j hj hh
  rw [e] at h2 h3
  rcases Nat.lt_trichotomy d D with q | q | q
  · exact (F.2.2 d q).2 (by rw [h2]; exact e)
  · subst q; rw [h2, hh] at hf; cases hf
  · have := (h3 D q).1
    rw [hf] at this; cases this
theorem inv_uniq {n : Nat} {K : Nat → Int32} {H : Nat → Bool} (I : Inv n K H) {i j : Nat} (hi : i < n) (hj : j < n) (h1 : H i = true) (h2 : H j = true) (e : K i = K j) : i = j := by
  obtain ⟨d, a1, a2, a3⟩ := I i hi h1
  obtain ⟨d', b1, b2, b3⟩ := I j hj h2
  rw [e] at a2 a3
  rcases Nat.lt_trichotomy d d' with q | q | q
  · exact absurd (by rw [a2]; exact e) (b3 d q).2
  · subst q; exact a2.symm.trans b2
  · exact absurd (by rw [b2]) (a3 d' q).2
/-- the place of key is taken -/
theorem inv_put {n : Nat} (hn : n = 4 ∨ n = 8 ∨ n = 16) {K : Nat → Int32} {H : Nat → Bool} {key : Int32} {D : Nat} (I : Inv n K H) (F : Fst n K H key D) (hf : H (pr n (s0 n key) D) = false) :
    Inv n (fun i => if i = pr n (s0 n key) D then key else K i) (fun i => if i = pr n (s0 n key) D then true else H i) := by
  intro j hj hh
  by_cases e : j = pr n (s0 n key) D
  · subst e
    refine ⟨D, F.1, ?_, ?_⟩
    · simp
    · intro d hd
      have q := F.2.2 d hd
      have ne : ¬ (pr n (s0 n key) d = pr n (s0 n key) D) := fun z => by rw [z, hf] at q; cases q.1
      simp only [if_true, if_neg ne]
      exact q
  · simp only [if_neg e] at hh ⊢
    obtain ⟨d, h1, h2, h3⟩ := I j hj hh
    refine ⟨d, h1, h2, fun d' hd => ?_⟩
    have q := h3 d' hd
    have ne : ¬ (pr n (s0 n (K j)) d' = pr n (s0 n key) D) := fun z => by rw [z, hf] at q; cases q.1
    simp only [if_neg ne]
    exact q
/-! entries in the order of their making -/
def Rp (n : Nat) (K : Nat → Int32) (H : Nat → Bool) (V : Nat → Value) (o : Nat → Nat) (es : List (Int32 × Value)) : Prop :=
  (∀ i (hi : i < es.length), o i < n ∧ H (o i) = true ∧ K (o i) = es[i].1 ∧ V (o i) = es[i].2) ∧ ∀ j, j < n → H j = true → ∃ i, i < es.length ∧ o i = j
def updL (es : List (Int32 × Value)) (c : Int32) (v : Value) : List (Int32 × Value) := if ∃ p ∈ es, p.1 = c then es.map (fun p => if p.1 = c then (c, v) else p) else es ++ [(c, v)]
def NT (n : Nat) (K : Nat → Int32) (H : Nat → Bool) (V : Nat → Value) (o : Nat → Nat) (es : List (Int32 × Value)) : Prop :=
  (n = 4 ∨ n = 8 ∨ n = 16) ∧ Inv n K H ∧ cnt n H ≤ es.length ∧ Rp n K H V o es ∧ (es.map Prod.fst).Nodup
abbrev fs {α : Type} (f : Nat → α) (j : Nat) (v : α) : Nat → α := fun i => if i = j then v else f i
theorem NT.hit {n D : Nat} {K : Nat → Int32} {H : Nat → Bool} {V : Nat → Value} {o : Nat → Nat} {es : List (Int32 × Value)} {c : Int32} {v : Value} (T : NT n K H V o es) (F : Fst n K H c D) (hh : H (pr n (s0 n c) D) = true) (hk : K (pr n (s0 n c) D) = c) :
    NT n K H (fs V (pr n (s0 n c) D) v) o (updL es c v) ∧ (updL es c v).length = es.length := by
  obtain ⟨hn, I, hc, R, N⟩ := T
  have hlt := pr_lt hn (s0 n c) D
  obtain ⟨i0, h0, e0⟩ := R.2 _ hlt hh
  have hex : ∃ p ∈ es, p.1 = c := ⟨es[i0], List.getElem_mem h0, by rw [← (R.1 i0 h0).2.2.1, e0]; exact hk⟩
  have eu : updL es c v = es.map (fun p => if p.1 = c then (c, v) else p) := if_pos hex
  have el : (updL es c v).length = es.length := by rw [eu, List.length_map]
  refine ⟨⟨hn, I, by rw [el]; exact hc, ⟨fun i hi => ?_, fun j hj hh' => ?_⟩, ?_⟩, el⟩
  · rw [el] at hi
    obtain ⟨r1, r2, r3, r4⟩ := R.1 i hi
    have eg : (updL es c v)[i]'(by rw [el]; exact hi) = if es[i].1 = c then (c, v) else es[i] := by simp [eu]
    rw [eg]
    by_cases e : es[i].1 = c
    · have eo : o i = pr n (s0 n c) D := inv_uniq I r1 hlt r2 hh (by rw [r3, hk]; exact e)
      refine ⟨r1, r2, ?_, ?_⟩
      · rw [if_pos e]; exact r3.trans e
      · rw [if_pos e]; unfold fs; rw [if_pos eo]
    · have eo : ¬ (o i = pr n (s0 n c) D) := fun q => e (by rw [← r3, q]; exact hk)
      refine ⟨r1, r2, ?_, ?_⟩
      · rw [if_neg e]; exact r3
      · rw [if_neg e]; unfold fs; rw [if_neg eo]; exact r4
  · obtain ⟨i, a, b⟩ := R.2 j hj hh'
    exact ⟨i, by rw [el]; exact a, b⟩
  · have : (updL es c v).map Prod.fst = es.map Prod.fst := by
      rw [eu, List.map_map]
      refine List.map_congr_left fun p _ => ?_
      show (if p.1 = c then (c, v) else p).1 = p.1
      split
      · rename_i q; exact q.symm
      · rfl
    rw [this]; exact N
theorem NT.add {n D : Nat} {K : Nat → Int32} {H : Nat → Bool} {V : Nat → Value} {o : Nat → Nat} {es : List (Int32 × Value)} {c : Int32} {v : Value} (T : NT n K H V o es) (F : Fst n K H c D) (hf : H (pr n (s0 n c) D) = false) :
    NT n (fs K (pr n (s0 n c) D) c) (fs H (pr n (s0 n c) D) true) (fs V (pr n (s0 n c) D) v) (fs o es.length (pr n (s0 n c) D)) (updL es c v) ∧ (updL es c v).length = es.length + 1 := by
  obtain ⟨hn, I, hc, R, N⟩ := T
  have hlt := pr_lt hn (s0 n c) D
  have nk := fst_free I F hf
  have hex : ¬ ∃ p ∈ es, p.1 = c := by
    rintro ⟨p, hp, e⟩
    obtain ⟨i, hi, rfl⟩ := List.mem_iff_getElem.mp hp
    obtain ⟨r1, r2, r3, -⟩ := R.1 i hi
    exact nk _ r1 r2 (r3.trans e)
  have eu : updL es c v = es ++ [(c, v)] := if_neg hex
  have el : (updL es c v).length = es.length + 1 := by rw [eu]; simp
  refine ⟨⟨hn, inv_put hn I F hf, by rw [el]; exact Nat.le_trans cnt_set (by omega), ⟨fun i hi => ?_, fun j hj hh' => ?_⟩, ?_⟩, el⟩
  · rw [el] at hi
    by_cases e : i = es.length
    · subst e
      have eg : (updL es c v)[es.length]'(by rw [el]; omega) = (c, v) := by simp [eu]
      rw [eg]
      unfold fs
      simp [hlt]
    · have hi' : i < es.length := by omega
      have eg : (updL es c v)[i]'(by rw [el]; omega) = es[i] := by simp [eu, List.getElem_append_left hi']
      obtain ⟨r1, r2, r3, r4⟩ := R.1 i hi'
      have ne : ¬ (o i = pr n (s0 n c) D) := fun q => by rw [q, hf] at r2; cases r2
      rw [eg]
      unfold fs
      simp only [if_neg e, if_neg ne]
      exact ⟨r1, r2, r3, r4⟩
  · unfold fs at hh' ⊢
    by_cases e : j = pr n (s0 n c) D
    · exact ⟨es.length, by rw [el]; omega, by simp [e]⟩
    · simp only [if_neg e] at hh'
      obtain ⟨i, a, b⟩ := R.2 j hj hh'
      exact ⟨i, by rw [el]; omega, by rw [if_neg (by omega)]; exact b⟩
  · rw [eu, List.map_append, List.nodup_append]
    refine ⟨N, by simp, fun a ha b hb e => ?_⟩
    simp at hb
    obtain ⟨p, hp, rfl⟩ := List.mem_map.mp ha
    exact hex ⟨p, hp, by rw [e, hb]⟩
theorem updL_take {es : List (Int32 × Value)} (N : (es.map Prod.fst).Nodup) {i : Nat} (hi : i < es.length) : updL (es.take i) es[i].1 es[i].2 = es.take (i + 1) := by
  have hex : ¬ ∃ p ∈ es.take i, p.1 = es[i].1 := by
    rintro ⟨p, hp, e⟩
    obtain ⟨k, hk, rfl⟩ := List.mem_iff_getElem.mp hp
    rw [List.length_take] at hk
    have hk' : k < i := by omega
    have : k = i := nodup_set N (x := es[i].1) (by rw [List.getElem?_map, List.getElem?_eq_getElem (by omega)]; simpa using e) (by rw [List.getElem?_map, List.getElem?_eq_getElem hi]; rfl)
    omega
  rw [updL, if_neg hex, List.take_add_one, List.getElem?_eq_getElem hi]
  rfl
theorem NT.zero {n : Nat} (hn : n = 4 ∨ n = 8 ∨ n = 16) : NT n (fun _ => 0) (fun _ => false) (fun _ => .null) (fun _ => 0) [] := by
  refine ⟨hn, fun j _ h => (by cases h), ?_, ⟨fun i hi => absurd hi (by simp), fun j _ h => (by cases h)⟩, List.nodup_nil⟩
  rcases hn with rfl | rfl | rfl <;> decide
theorem NT.fst_ex {n : Nat} {K : Nat → Int32} {H : Nat → Bool} {V : Nat → Value} {o : Nat → Nat} {es : List (Int32 × Value)} (T : NT n K H V o es) (hl : es.length < n) (c : Int32) : ∃ D, Fst n K H c D := Own.fst_ex T.1 (Nat.lt_of_le_of_lt T.2.2.1 hl) c
def nmv : Bool → Addr → Value | true, a => .ref a | false, _ => .null
def tN (n : Nat) (H : Nat → Bool) (s : Nat → Addr) : List Value := tab n (fun j => nmv (H j) (s j))
def tO (n : Nat) (o : Nat → Nat) : List Value := tab (n / 2) (fun i => .int (o i).toInt32)
theorem n31 {n j : Nat} (hn : n = 4 ∨ n = 8 ∨ n = 16) (h : j < n) : j < 2 ^ 31 := by rcases hn with rfl | rfl | rfl <;> omega
theorem lenN {n : Nat} {H : Nat → Bool} {s : Nat → Addr} : (tN n H s).length.toInt32 = n.toInt32 := by rw [tN, tab_len]
theorem getN {n j : Nat} {H : Nat → Bool} {s : Nat → Addr} {b : Bool} (hn : n = 4 ∨ n = 8 ∨ n = 16) (hj : j < n) (hb : H j = b) : (tN n H s)[j.toInt32.toNatClampNeg]? = some (nmv b (s j)) := by rw [(ix (n31 hn hj)).1, tN, tab_get hj, hb]
theorem getV {n j : Nat} {V : Nat → Value} (hn : n = 4 ∨ n = 8 ∨ n = 16) (hj : j < n) : (tab n V)[j.toInt32.toNatClampNeg]? = some (V j) := by rw [(ix (n31 hn hj)).1, tab_get hj]
theorem getO {n i : Nat} {o : Nat → Nat} (hn : n = 4 ∨ n = 8 ∨ n = 16) (hi : 2 * i < n) : (tO n o)[i.toInt32.toNatClampNeg]? = some (.int (o i).toInt32) := by rw [(ix (n31 hn (by omega))).1, tO, tab_get (by omega)]
theorem nng {n j : Nat} (hn : n = 4 ∨ n = 8 ∨ n = 16) (hj : j < n) : ¬ (j.toInt32 < 0) := (ix (n31 hn hj)).2
theorem ltT {n j : Nat} {f : Nat → Value} (hn : n = 4 ∨ n = 8 ∨ n = 16) (hj : j < n) : j.toInt32.toNatClampNeg < (tab n f).length := by rw [(ix (n31 hn hj)).1, tab_len]; exact hj
theorem ltO {n i : Nat} {o : Nat → Nat} (hn : n = 4 ∨ n = 8 ∨ n = 16) (hi : 2 * i < n) : i.toInt32.toNatClampNeg < (tO n o).length := by rw [(ix (n31 hn (by omega))).1, tO, tab_len]; omega
theorem setV {n j : Nat} {V : Nat → Value} {v : Value} (hn : n = 4 ∨ n = 8 ∨ n = 16) (hj : j < n) : (tab n V).set j.toInt32.toNatClampNeg v = tab n (fs V j v) := by rw [(ix (n31 hn hj)).1, tab_set]
theorem setN {n j : Nat} {H : Nat → Bool} {s : Nat → Addr} {a : Addr} (hn : n = 4 ∨ n = 8 ∨ n = 16) (hj : j < n) : (tN n H s).set j.toInt32.toNatClampNeg (.ref a) = tN n (fs H j true) (fs s j a) := by
  rw [(ix (n31 hn hj)).1, tN, tab_set, tN]
  congr 1; funext i; unfold fs; split <;> simp_all [nmv]
theorem setO {n i j : Nat} {o : Nat → Nat} (hn : n = 4 ∨ n = 8 ∨ n = 16) (hi : 2 * i < n) : (tO n o).set i.toInt32.toNatClampNeg (.int j.toInt32) = tO n (fs o i j) := by
  rw [(ix (n31 hn (by omega))).1, tO, tab_set, tO]
  congr 1; funext t; unfold fs; split <;> rfl
theorem sucI (z : Nat) : z.toInt32 + 1 = (z + 1).toInt32 := (Int32.ofNat_add z 1).symm
theorem sz_lt {n z : Nat} (hn : n = 4 ∨ n = 8 ∨ n = 16) (hz : z ≤ n) : (z.toInt32 * (2 : Int32) < n.toInt32) ↔ 2 * z < n := by
  have h : z < 17 := by rcases hn with rfl | rfl | rfl <;> omega
  rcases hn with rfl | rfl | rfl
  · have : ∀ z, z < 17 → ((z.toInt32 * (2 : Int32) < (4 : Nat).toInt32) ↔ 2 * z < 4) := by decide +kernel
    exact this z h
  · have : ∀ z, z < 17 → ((z.toInt32 * (2 : Int32) < (8 : Nat).toInt32) ↔ 2 * z < 8) := by decide +kernel
    exact this z h
  · have : ∀ z, z < 17 → ((z.toInt32 * (2 : Int32) < (16 : Nat).toInt32) ↔ 2 * z < 16) := by decide +kernel
    exact this z h
end Jvm.Own
namespace Jvm.Own
open Sem ClassFile Op Lib Jvm.Stand Jvm.Free Jvm.LawKit Jvm.RoadKit
/-! one-sign Strings and boxed ints among the pieces -/
def sN : String := "java/lang/String"
abbrev oS (b : Addr) (hv zv : Int32) : Pc := .inl ("java/lang/String", [("java/lang/String", "value", "[B", .ref b), ("java/lang/String", "coder", "B", .int 0), ("java/lang/String", "hash", "I", .int hv), ("java/lang/String", "hashIsZero", "Z", .int zv)])
abbrev by8 (c : Int32) : Int32 := nar .byte c.toInt8.toInt32
abbrev oB (kb : ClassId) (c : Int32) : Pc := .inr (.byte, kb, [.int (by8 c)])
abbrev oI (q : Int32) : Pc := .inl ("java/lang/Integer", [("java/lang/Integer", "value", "I", .int q)])
def rng8 (c : Int32) : Prop := 0 ≤ c.toInt ∧ c.toInt ≤ 255
theorem by8_and {c : Int32} (h : rng8 c) : by8 c &&& 255 = c := by
  have e : c = c.toInt.toNat.toInt32 := Int32.toInt_inj.mp (by rw [len_toInt (by have := h.2; omega)]; have := h.1; omega)
  have hl : c.toInt.toNat < 256 := by have := h.1; have := h.2; omega
  generalize c.toInt.toNat = k at e hl
  subst e
  clear h
  have key : ∀ k, k < 256 → by8 k.toInt32 &&& 255 = k.toInt32 := by decide +kernel
  exact key k hl
theorem by8_inj {c d : Int32} (h : rng8 c) (h' : rng8 d) (e : by8 c = by8 d) : c = d := by rw [← by8_and h, ← by8_and h', e]
def hok (hv zv c : Int32) : Prop := (hv = 0 ∧ zv = 0) ∨ (hv = 0 ∧ zv = 1 ∧ c = 0) ∨ (¬ (hv = 0) ∧ hv = c ∧ zv = 0)
def SOK (tl : List (Addr × Pc)) (a : Addr) (c : Int32) : Prop := rng8 c ∧ ∃ b kb hv zv, (a, oS b hv zv) ∈ tl ∧ (b, oB kb c) ∈ tl ∧ hok hv zv c
def VI (Z : State) (tl : List (Addr × Pc)) (v : Value) (q : Int32) : Prop := ∃ b, v = .ref b ∧ ((b, oI q) ∈ tl ∨ (Exa Z Z.heap b "java/lang/Integer" ∧ Fld Z Z.heap b "java/lang/Integer" "value" "I" (.int q)))
def VOK (Z : State) (tl : List (Addr × Pc)) (v : Value) : Prop := v = .null ∨ ∃ q, VI Z tl v q
def Mono (Z : State) (tl tl2 : List (Addr × Pc)) : Prop := (∀ a c, SOK tl a c → SOK tl2 a c) ∧ ∀ v q, VI Z tl v q → VI Z tl2 v q
variable {Z : State} {h : Heap} {cs tl tl2 tl3 : List (Addr × Pc)} {a b : Addr} {c d : Int32} {v : Value}
theorem Mono.refl : Mono Z tl tl := ⟨fun _ _ q => q, fun _ _ q => q⟩
theorem Mono.trans (m : Mono Z tl tl2) (m' : Mono Z tl2 tl3) : Mono Z tl tl3 := ⟨fun a c q => m'.1 a c (m.1 a c q), fun v q x => m'.2 v q (m.2 v q x)⟩
theorem Mono.vok (m : Mono Z tl tl2) (x : VOK Z tl v) : VOK Z tl2 v := x.imp id fun ⟨q, y⟩ => ⟨q, m.2 _ _ y⟩
theorem SOK.sub (x : SOK tl a c) (s : ∀ q ∈ tl, q ∈ tl2) : SOK tl2 a c := by obtain ⟨r, b, kb, hv, zv, h1, h2, h3⟩ := x; exact ⟨r, b, kb, hv, zv, s _ h1, s _ h2, h3⟩
theorem VI.sub {q : Int32} (x : VI Z tl v q) (s : ∀ q ∈ tl, q ∈ tl2) : VI Z tl2 v q := by obtain ⟨b, e, m⟩ := x; exact ⟨b, e, m.imp (s _) id⟩
theorem Mono.sub (s : ∀ q ∈ tl, q ∈ tl2) : Mono Z tl tl2 := ⟨fun _ _ x => x.sub s, fun _ _ x => x.sub s⟩
theorem VI.ref {q : Int32} (x : VI Z tl v q) : v.isRef = true := by obtain ⟨b, rfl, -⟩ := x; rfl
theorem VOK.ref (x : VOK Z tl v) : v.isRef = true := by rcases x with rfl | ⟨q, x⟩; rfl; exact x.ref
theorem HS.mem (H : HS Z h cs) {p : Pc} (m : (a, p) ∈ cs) : Ch Z h a p := (H.2.1 _ m).2
theorem HS.uniq (H : HS Z h cs) {p p' : Pc} (m : (a, p) ∈ cs) (m' : (a, p') ∈ cs) : p = p' := by
  obtain ⟨i, hi⟩ := List.mem_iff_getElem?.mp m
  obtain ⟨j, hj⟩ := List.mem_iff_getElem?.mp m'
  have : i = j := nodup_set H.2.2 (x := a) (by simp [hi]) (by simp [hj])
  subst this
  rw [hi] at hj
  cases hj; rfl
theorem SOK.uniq (H : HS Z h cs) (s : ∀ q ∈ tl, q ∈ cs) (x : SOK tl a c) (y : SOK tl a d) : c = d := by
  obtain ⟨r, b, kb, hv, zv, h1, h2, h3⟩ := x
  obtain ⟨r', b', kb', hv', zv', h1', h2', h3'⟩ := y
  have e := H.uniq (s _ h1) (s _ h1')
  injection e with e
  injection e with _ e
  injection e with e _
  injection e with _ e
  injection e with _ e
  injection e with _ e
  injection e with e
  subst e
  have e := H.uniq (s _ h2) (s _ h2')
  injection e with e
  injection e with _ e
  injection e with _ e
  injection e with e _
  injection e with e
  exact by8_inj r r' e
theorem VI.exa {q : Int32} (H : HS Z h cs) (s : ∀ q ∈ tl, q ∈ cs) (x : VI Z tl (.ref b) q) : Exa Z h b "java/lang/Integer" ∧ Fld Z h b "java/lang/Integer" "value" "I" (.int q) := by
  obtain ⟨b', e, m⟩ := x
  cases e
  rcases m with m | ⟨m1, m2⟩
  · have g := H.mem (s _ m); exact ⟨g.1, g.2 _ (List.mem_cons_self ..)⟩
  · exact ⟨m1.ext H.1, m2.ext H.1⟩
/-- what a String that is OK holds in the heap -/
theorem SOK.str (H : HS Z h cs) (s : ∀ q ∈ tl, q ∈ cs) (x : SOK tl a c) : ∃ b hv zv, (a, oS b hv zv) ∈ tl ∧ hok hv zv c ∧ rng8 c ∧ Exa Z h a "java/lang/String" ∧ Fld Z h a "java/lang/String" "value" "[B" (.ref b) ∧ Fld Z h a "java/lang/String" "coder" "B" (.int 0) ∧ Fld Z h a "java/lang/String" "hash" "I" (.int hv) ∧ Fld Z h a "java/lang/String" "hashIsZero" "Z" (.int zv) ∧
    ∃ cl : Cell, RoadKit.Arr Z h b cl .byte ∧ cl.slots.toList = [.int (by8 c)] := by
  obtain ⟨r, b, kb, hv, zv, h1, h2, h3⟩ := x
  have g := H.mem (s _ h1)
  obtain ⟨cl, A, -, e⟩ := H.mem (s _ h2)
  exact ⟨b, hv, zv, h1, h3, r, g.1, g.2 _ (List.mem_of_getElem? (i := 0) rfl), g.2 _ (List.mem_of_getElem? (i := 1) rfl), g.2 _ (List.mem_of_getElem? (i := 2) rfl), g.2 _ (List.mem_of_getElem? (i := 3) rfl), cl, A, e⟩
/-- the hash of a String is noted: its piece alone is another -/
theorem Mono.note {fr : List (Addr × Pc)} {k : Nat} {hv zv hv' zv' : Int32} (H : HS Z h (fr ++ tl)) (hk : tl[k]? = some (a, oS b hv zv)) (ho : ∀ c, hok hv zv c → SOK tl a c → hok hv' zv' c) : Mono Z tl (tl.set k (a, oS b hv' zv')) := by
  have sub : ∀ q ∈ tl, q ∈ fr ++ tl := fun q m => List.mem_append_right _ m
  have keep : ∀ x p, (x, p) ∈ tl → x ≠ a → (x, p) ∈ tl.set k (a, oS b hv' zv') := by
    intro x p m ne
    obtain ⟨j, hj⟩ := List.mem_iff_getElem?.mp m
    refine List.mem_iff_getElem?.mpr ⟨j, ?_⟩
    rw [List.getElem?_set]
    split
    · rename_i e; subst e; rw [hk] at hj; cases hj; exact absurd rfl ne
    · exact hj
  have hkl := (List.getElem?_eq_some_iff.mp hk).1
  have new : (a, oS b hv' zv') ∈ tl.set k (a, oS b hv' zv') := List.mem_iff_getElem?.mpr ⟨k, by rw [List.getElem?_set]; simp [hkl]⟩
  have old : (a, oS b hv zv) ∈ tl := List.mem_of_getElem? hk
  refine ⟨fun x c ⟨r, b', kb, u, w, h1, h2, h3⟩ => ?_, fun v q ⟨x, e, m⟩ => ⟨x, e, m.imp (fun m => ?_) id⟩⟩
  · have hb : b' ≠ a := fun e => by
      subst e
      have := H.uniq (sub _ h2) (sub _ old)
      cases this
    by_cases e : x = a
    · subst e
      have e2 := H.uniq (sub _ h1) (sub _ old)
      injection e2 with e2
      injection e2 with _ e2
      injection e2 with e3 e4
      injection e3 with _ e3
      injection e3 with _ e3
      injection e3 with _ e3
      injection e3 with e3
      injection e4 with _ e4
      injection e4 with e5 e6
      injection e5 with _ e5
      injection e5 with _ e5
      injection e5 with _ e5
      injection e5 with e5
      injection e6 with e6 _
      injection e6 with _ e6
      injection e6 with _ e6
      injection e6 with _ e6
      injection e6 with e6
      subst e3 e5 e6
      exact ⟨r, _, kb, hv', zv', new, keep _ _ h2 hb, ho c h3 ⟨r, _, kb, _, _, h1, h2, h3⟩⟩
    · exact ⟨r, b', kb, u, w, keep _ _ h1 e, keep _ _ h2 hb, h3⟩
  · refine keep _ _ m fun e => ?_
    subst e
    have := H.uniq (sub _ m) (sub _ old)
    injection this with this
    injection this with this
    exact absurd this (by decide)
theorem set_app {fr : List (Addr × Pc)} {k : Nat} {x : Addr × Pc} : (fr ++ tl).set (fr.length + k) x = fr ++ tl.set k x := by rw [List.set_append_right _ _ (by omega)]; simp
theorem get_app {fr : List (Addr × Pc)} {k : Nat} : (fr ++ tl)[fr.length + k]? = tl[k]? := by rw [List.getElem?_append_right (by omega)]; simp
theorem HS.perm {cs' : List (Addr × Pc)} (H : HS Z h cs) (pm : cs.Perm cs') : HS Z h cs' := ⟨H.1, fun q hq => H.2.1 q (pm.mem_iff.mpr hq), (pm.map _).nodup_iff.mp H.2.2⟩
theorem HS.deep {fr : List (Addr × Pc)} {x : Addr × Pc} (H : HS Z h (x :: (fr ++ tl))) : HS Z h (fr ++ x :: tl) := H.perm List.perm_middle.symm
theorem VI.sto {a0 : Array Value} {i : Nat} {ty : FieldType} {k : ClassId} {vs : List Value} {C : String} {q : Int32} (H : HS Z h cs) (hi : cs[i]? = some (a, .inr (ty, k, vs))) (O : Ovr Z k C) (s : ∀ q ∈ tl, q ∈ cs) (hv : VI Z tl v q) (wc : (Jvm.Cond.castable "java/lang/Integer" C).before a0 Z = true) : Sto Z h a v := by
  obtain ⟨b, rfl, m⟩ := hv
  exact H.sto hi O (Ins.of_exa (VI.exa H s ⟨b, rfl, m⟩).1 wc)
theorem cache_ix {q : Int32} (h1 : ¬ (q < (-128 : Int32))) (h2 : ¬ ((127 : Int32) < q)) : ∃ k : Nat, k < 256 ∧ q + 128 = k.toInt32 ∧ k.toInt32 - 128 = q := by
  rw [Int32.lt_iff_toInt_lt] at h1 h2
  simp only [Int32.reduceToInt] at h1 h2
  have e : q = Int32.ofInt q.toInt := (Int32.ofInt_toInt q).symm
  have key : ∀ k : Nat, k < 256 → Int32.ofInt ((k : Int) - 128) + 128 = k.toInt32 ∧ k.toInt32 - 128 = Int32.ofInt ((k : Int) - 128) := by decide +kernel
  have hk : ((q.toInt + 128).toNat : Int) = q.toInt + 128 := by
    have : (-128 : Int32).toInt = -128 := by decide
    omega
  obtain ⟨a1, a2⟩ := key (q.toInt + 128).toNat (by omega)
  have e2 : ((q.toInt + 128).toNat : Int) - 128 = q.toInt := by omega
  rw [e2, ← e] at a1 a2
  exact ⟨_, by omega, a1, a2⟩
section Acc
variable {l : Launch} {R : Room} {K : Ctx} {Q : Option Value → Heap → Prop} {cc ss pc : Nat} {ls : Array Slot} {st : List Value} {y : MethodName} {code : ByteArray} {maxL : Nat} {ret : Option FieldType}
theorem W.baldA (ok : Ok Z K y code maxL ret) {cl : Cell} {j : Int32} (A : RoadKit.Arr Z h a cl .byte) (hj : ¬ (j < 0 ∨ cl.slots.size ≤ j.toNatClampNeg)) (hv : cl.slots[j.toNatClampNeg]? = some v) (hd : decode code pc = .ok (.baload, 1)) (pc' : Nat) (G : W l Z R K Q h cc ss pc' ls (v :: st)) (hp : pc + 1 = pc' := by rfl) :
    W l Z R K Q h cc ss pc ls (.int j :: .ref a :: st) := by
  subst hp
  intro T L X N e
  exact Ends.step (fun t kt => X.baloadBytes ok.1 (j := j) (v := v) (by rw [e]; exact A.1) (State.isArrayOf_alike ok.2.1.alike A.2.1) A.2.2 hj hv (g := mkF K.m pc ls (.int j :: .ref a :: st)) rfl rfl (hb ok.2.2.1 hd) _ kt) (G T _ X N e)
theorem W.lsw (ok : Ok Z K y code maxL ret) {k : Int32} {dflt : Int} {pairs : Array (Int × Int)} {len : Nat} (hd : decode code pc = .ok (.lookupswitch dflt pairs, len)) (pc' : Nat) {x off : Int} (hs : (pairs.toList.zip (pairs.toList.drop 1)).all (fun (a, next) => a.1 < next.1) = true) (hf : pairs.find? (·.1 == k.toInt) = some (x, off)) (G : W l Z R K Q h cc ss pc' ls st) (ho : 0 ≤ (pc : Int) + off) (hp : ((pc : Int) + off).toNat = pc') :
    W l Z R K Q h cc ss pc ls (.int k :: st) := by
  subst hp
  exact fun T L X N e => Ends.step (fun t kt => X.lookupswitchHit ok.1 (g := mkF K.m pc ls (.int k :: st)) rfl rfl (hb ok.2.2.1 hd) hs hf ho t kt) (G T L X N e)
theorem one_at {cl : Cell} (e : cl.slots.toList = [v]) : ¬ ((0 : Int32) < 0 ∨ cl.slots.size ≤ (0 : Int32).toNatClampNeg) ∧ cl.slots[(0 : Int32).toNatClampNeg]? = some v ∧ cl.slots.size.toInt32 = 1 := by
  have hs : cl.slots.size = 1 := len_eq e
  refine ⟨fun q => ?_, (at_eq e _).trans rfl, by rw [hs]; rfl⟩
  rw [hs] at q
  rcases q with q | q
  · exact absurd q (by decide)
  · exact absurd q (by decide)
end Acc
end Jvm.Own
namespace Jvm.Own
open Sem ClassFile Op Lib Jvm.Stand Jvm.Free Jvm.LawKit Jvm.RoadKit
variable {Z : State} {h : Heap} {cs tl tl2 fr : List (Addr × Pc)} {a b : Addr} {c d : Int32} {v : Value} {n z : Nat} {K : Nat → Int32} {H : Nat → Bool} {V : Nat → Value} {s : Nat → Addr} {o : Nat → Nat} {es : List (Int32 × Value)} {kn kv : ClassId}
theorem SOK.exa (G : HS Z h cs) (u : ∀ q ∈ tl, q ∈ cs) (x : SOK tl a c) : Exa Z h a "java/lang/String" := by
  obtain ⟨_, _, _, _, _, _, e, _⟩ := SOK.str G u x
  exact e
theorem VOK.sto {a0 : Array Value} {i : Nat} {ty : FieldType} {k : ClassId} {vs : List Value} {C : String} (G : HS Z h cs) (hi : cs[i]? = some (a, .inr (ty, k, vs))) (O : Ovr Z k C) (u : ∀ q ∈ tl, q ∈ cs) (hv : VOK Z tl v) (wc : (Jvm.Cond.castable "java/lang/Integer" C).before a0 Z = true) : Sto Z h a v := by
  rcases hv with rfl | ⟨q, x⟩
  · exact Or.inl rfl
  · exact VI.sto G hi O u x wc
theorem VOK.fs {p : Nat} (hV : ∀ j, VOK Z tl (V j)) (hv : VOK Z tl v) : ∀ j, VOK Z tl (fs V p v j) := by
  intro j; unfold Own.fs; split
  · exact hv
  · exact hV j
theorem SOK.fs {p : Nat} (hS : ∀ j, H j = true → SOK tl (s j) (K j)) (hs : SOK tl a c) : ∀ j, fs H p true j = true → SOK tl (fs s p a j) (fs K p c j) := by
  intro j; unfold Own.fs; split
  · exact fun _ => hs
  · exact hS j
theorem Mono.sok (m : Mono Z tl tl2) (hS : ∀ j, H j = true → SOK tl (s j) (K j)) : ∀ j, H j = true → SOK tl2 (s j) (K j) := fun j q => m.1 _ _ (hS j q)
def TS (Z : State) (tl : List (Addr × Pc)) (n : Nat) (K : Nat → Int32) (H : Nat → Bool) (V : Nat → Value) (s : Nat → Addr) (o : Nat → Nat) (es : List (Int32 × Value)) (z : Nat) (kn kv : ClassId) : Prop :=
  NT n K H V o es ∧ es.length = z ∧ 2 * z < n ∧ (∀ j, VOK Z tl (V j)) ∧ (∀ j, H j = true → SOK tl (s j) (K j)) ∧ Ovr Z kn "java/lang/String" ∧ Ovr Z kv "java/lang/Object"
theorem mem4 {p1 p2 p3 p4 : Addr × Pc} : ∀ q ∈ tl, q ∈ p1 :: p2 :: p3 :: p4 :: (fr ++ tl) := fun _ m => List.mem_cons_of_mem _ (List.mem_cons_of_mem _ (List.mem_cons_of_mem _ (List.mem_cons_of_mem _ (List.mem_append_right _ m))))
theorem updL2 (R : Rp n K H V o es) (N : (es.map Prod.fst).Nodup) (el : es.length = 2) : updL (updL [] (K (o 0)) (V (o 0))) (K (o 1)) (V (o 1)) = es := by
  match es, el with
  | [p, q], _ =>
    have r0 := R.1 0 (Nat.succ_pos _)
    have r1 := R.1 1 (Nat.lt_succ_self _)
    rw [r0.2.2.1, r0.2.2.2, r1.2.2.1, r1.2.2.2]
    have e0 := updL_take N (i := 0) (Nat.succ_pos _)
    have e1 := updL_take N (i := 1) (Nat.lt_succ_self _)
    exact (congrArg (fun y => updL y q.1 q.2) e0).trans e1
end Jvm.Own
namespace Jvm.Own
open Sem ClassFile Op Lib Jvm.Stand Jvm.Free Jvm.LawKit Jvm.RoadKit
variable {Z : State} {h : Heap} {cs tl tl2 fr : List (Addr × Pc)} {a b : Addr} {c d : Int32} {v : Value} {n z : Nat} {K : Nat → Int32} {H : Nat → Bool} {V : Nat → Value} {s : Nat → Addr} {o : Nat → Nat} {es : List (Int32 × Value)} {kn kv : ClassId}
theorem TS.mono (T : TS Z tl n K H V s o es z kn kv) (m : Mono Z tl tl2) : TS Z tl2 n K H V s o es z kn kv := ⟨T.1, T.2.1, T.2.2.1, fun j => m.vok (T.2.2.2.1 j), m.sok T.2.2.2.2.1, T.2.2.2.2.2⟩
def BX (Z : State) (ca : Addr) (cl : Cell) : Prop := Bxs Z ca cl "java/lang/Integer" "I" 256 (fun j => .int (j - 128))
theorem BX.get {ca : Addr} {cl : Cell} {q : Int32} (B : BX Z ca cl) (h1 : ¬ (q < (-128 : Int32))) (h2 : ¬ ((127 : Int32) < q)) : ¬ (q + 128 < 0 ∨ cl.slots.size ≤ (q + 128).toNatClampNeg) ∧ ∃ b, cl.slots[(q + 128).toNatClampNeg]? = some (.ref b) ∧ VI Z tl (.ref b) q := by
  obtain ⟨k, hk, e1, e2⟩ := cache_ix h1 h2
  obtain ⟨A, es, -, hb⟩ := B
  have hx := ix (j := k) (by omega)
  have hj : ¬ (q + 128 < 0 ∨ cl.slots.size ≤ (q + 128).toNatClampNeg) := by
    rw [e1, hx.1, es]
    intro t
    rcases t with t | t
    · exact hx.2 t
    · have : (256 : Int32).toNatClampNeg = 256 := by decide
      omega
  obtain ⟨b, b1, b2, b3⟩ := hb _ hj
  refine ⟨hj, b, b1, b, rfl, Or.inr ⟨b2, ?_⟩⟩
  have e3 : q + 128 - 128 = q := by rw [e1]; exact e2
  have b3 : Fld Z Z.heap b "java/lang/Integer" "value" "I" (.int (q + 128 - 128)) := b3
  rw [e3] at b3
  exact b3
theorem SOK.fresh {kb : ClassId} (r : rng8 c) : SOK ((a, oS b 0 0) :: (b, oB kb c) :: tl) a c := ⟨r, b, kb, 0, 0, List.mem_cons_self .., List.mem_cons_of_mem _ (List.mem_cons_self ..), Or.inl ⟨rfl, rfl⟩⟩
theorem Mono.cons2 {p q : Addr × Pc} : Mono Z tl (p :: q :: tl) := Mono.sub fun _ m => List.mem_cons_of_mem _ (List.mem_cons_of_mem _ m)
theorem Mono.cons1 {p : Addr × Pc} : Mono Z tl (p :: tl) := Mono.sub fun _ m => List.mem_cons_of_mem _ m
theorem u0 {w : Value} : updL [] c w = [(c, w)] := if_neg (by simp)
theorem u1h {w w' : Value} : updL [(c, w)] c w' = [(c, w')] := by rw [updL, if_pos ⟨_, List.mem_cons_self .., rfl⟩]; simp
theorem u1n {w w' : Value} (n1 : ¬ (d = c)) : updL [(c, w)] d w' = [(c, w), (d, w')] := by
  have n2 : ¬ (c = d) := fun e => n1 e.symm
  rw [updL, if_neg (by simp [n2])]; rfl
theorem es1 {c1 : Int32} {w1 w2 w3 : Value} : updL (updL (updL [] c1 w1) c1 w2) c1 w3 = [(c1, w3)] := by rw [u0, u1h, u1h]
theorem es2 {c1 d3 : Int32} {w1 w2 w3 : Value} (h : ¬ (d3 = c1)) : updL (updL (updL [] c1 w1) c1 w2) d3 w3 = [(c1, w2), (d3, w3)] := by rw [u0, u1h, u1n h]
theorem es3 {c1 d2 : Int32} {w1 w2 w3 : Value} (h : ¬ (d2 = c1)) : updL (updL (updL [] c1 w1) d2 w2) c1 w3 = [(c1, w3), (d2, w2)] := by
  rw [u0, u1n h, updL, if_pos ⟨_, List.mem_cons_self .., rfl⟩]; simp [h]
theorem es4 {c1 d2 : Int32} {w1 w2 w3 : Value} (h : ¬ (d2 = c1)) : updL (updL (updL [] c1 w1) d2 w2) d2 w3 = [(c1, w1), (d2, w3)] := by
  have n2 : ¬ (c1 = d2) := fun e => h e.symm
  rw [u0, u1n h, updL, if_pos ⟨_, List.mem_cons_of_mem _ (List.mem_cons_self ..), rfl⟩]; simp [n2]
theorem es5 {c1 d2 d3 : Int32} {w1 w2 w3 : Value} (h : ¬ (d2 = c1)) (h' : ¬ (d3 = c1)) (h2 : ¬ (d3 = d2)) : updL (updL (updL [] c1 w1) d2 w2) d3 w3 = [(c1, w1), (d2, w2), (d3, w3)] := by
  have n1 : ¬ (c1 = d3) := fun e => h' e.symm
  have n2 : ¬ (d2 = d3) := fun e => h2 e.symm
  rw [u0, u1n h, updL, if_neg (by simp [n1, n2])]; rfl
theorem i2c8 (u : Int32) : rng8 ((u &&& 255).toUInt32.toUInt16.toUInt32.toInt32) := by
  have q := c_and u 255 (by decide)
  have e : u &&& 255 = (u &&& 255).toInt.toNat.toInt32 := Int32.toInt_inj.mp (by rw [len_toInt (by have := q.2; have : (255 : Int32).toInt = 255 := (by decide); omega)]; have := q.1; omega)
  have hl : (u &&& 255).toInt.toNat < 256 := by have := q.2; have : (255 : Int32).toInt = 255 := (by decide); omega
  rw [e]
  generalize (u &&& 255).toInt.toNat = k at hl
  have key : ∀ k, k < 256 → 0 ≤ (k.toInt32.toUInt32.toUInt16.toUInt32.toInt32).toInt ∧ (k.toInt32.toUInt32.toUInt16.toUInt32.toInt32).toInt ≤ 255 := by decide +kernel
  exact key k hl
theorem rng8.le (h : rng8 c) : ¬ ((255 : Int32) < c) := by
  rw [Int32.lt_iff_toInt_lt]
  have := h.2
  have : (255 : Int32).toInt = 255 := by decide
  omega
theorem and3 (u : Int32) : u &&& 3 = 0 ∨ u &&& 3 = 1 ∨ u &&& 3 = 2 ∨ u &&& 3 = 3 := by
  have q := c_and u 3 (by decide)
  have e : u &&& 3 = (u &&& 3).toInt.toNat.toInt32 := Int32.toInt_inj.mp (by rw [len_toInt (by have := q.2; have : (3 : Int32).toInt = 3 := (by decide); omega)]; have := q.1; omega)
  have hl : (u &&& 3).toInt.toNat < 4 := by have := q.2; have : (3 : Int32).toInt = 3 := (by decide); omega
  rw [e]
  generalize (u &&& 3).toInt.toNat = k at hl
  revert k; decide +kernel
end Jvm.Own
namespace Jvm.Own
open Sem ClassFile Op Lib Jvm.Stand Jvm.Free Jvm.LawKit Jvm.RoadKit
theorem st_int {Z : State} {args : Array Value} {C n d : String} {i : Int32} (w : (Jvm.Cond.eq (.static C n d) (.int i)).value args Z none Z [] = some true) (hi : (Jvm.Cond.initializedFor C n d).before args Z = true ∨ ((Jvm.Cond.initialized C).before args Z = true ∧ (Jvm.Cond.laysStatic C n d).before args Z = true)) : Sta Z Z.heap C n d (.int i) := by
  refine Sta.start ?_ hi
  cases hq : (Term.static C n d).eval args Z none [] Z with
  | none => simp [Cond.value, hq] at w
  | some v =>
    cases v <;> simp [Cond.value, hq, Term.int_eval] at w
    rw [w]
theorem BX.start {Z : State} {args : Array Value} {t : Term} {ca : Addr} (et : t.eval args Z none [] Z = some (.ref ca)) (h1 : (Cond.arrayOf t (.object "java/lang/Integer")).value args Z none Z [] = some true) (h2 : (Cond.eq (.length t) (.int (256 : Int32))).value args Z none Z [] = some true)
    (h3 : (Cond.all t (.and (.exactly (.elem t (.index 0)) "java/lang/Integer") (.eq (.field (.elem t (.index 0)) "java/lang/Integer" "value" "I") (.sub (.index 0) (.int (128 : Int32)))))).value args Z none Z [] = some true) (ei : ∀ idx, t.eval args Z none idx Z = t.eval args Z none [] Z) : ∃ ccl, BX Z ca ccl := by
  obtain ⟨c, A⟩ := Arr.start et h1
  have e1 := eqv_i (Term.int_eval 256) h2
  obtain ⟨x, cl, e2, e3, e4⟩ := Term.length_spec e1
  cases et.symm.trans e2
  cases (A.fin (Vm.Alike.refl _)).symm.trans e3
  have h31 : c.slots.size < 2 ^ 31 := by
    refine Nat.lt_of_not_le fun hle => ?_
    have hno : ¬ (c.slots.size < 2 ^ 31) := by omega
    simp [Term.eval, et, e3] at e1
    omega
  have e5 := (len_f et e3 h31).symm.trans e1
  refine ⟨c, Bxs.start (fun idx => (ei idx).trans et) A h31 (Value.int.inj (Option.some.inj e5)) (by decide) h3 fun X j nn hx => eqv_i ?_ hx⟩
  simp [Term.eval, idx_at nn]
  exact (back32 nn).1
end Jvm.Own
namespace Jvm.Own
open Sem ClassFile Op Lib Jvm.Stand Jvm.Free Jvm.LawKit Jvm.RoadKit
variable {Z : State} {h : Heap} {cs tl tl2 fr : List (Addr × Pc)} {a b : Addr} {c d : Int32} {v : Value} {n z : Nat} {K : Nat → Int32} {H : Nat → Bool} {V : Nat → Value} {s : Nat → Addr} {o : Nat → Nat} {es : List (Int32 × Value)} {kn kv : ClassId}
theorem nar_chr (h : rng8 c) : nar .char c = c := by
  have e : c = c.toInt.toNat.toInt32 := Int32.toInt_inj.mp (by rw [len_toInt (by have := h.2; omega)]; have := h.1; omega)
  have hl : c.toInt.toNat < 256 := by have := h.1; have := h.2; omega
  generalize c.toInt.toNat = k at e hl
  subst e
  clear h
  have key : ∀ k, k < 256 → nar .char k.toInt32 = k.toInt32 := by decide +kernel
  exact key k hl
theorem updL4 (R : Rp n K H V o es) (N : (es.map Prod.fst).Nodup) (el : es.length = 4) : updL (updL (updL (updL [] (K (o 0)) (V (o 0))) (K (o 1)) (V (o 1))) (K (o 2)) (V (o 2))) (K (o 3)) (V (o 3)) = es := by
  match es, el with
  | [p, q, r, t], _ =>
    have r0 := R.1 0 (Nat.succ_pos _)
    have r1 := R.1 1 (Nat.le_of_ble_eq_true rfl)
    have r2 := R.1 2 (Nat.le_of_ble_eq_true rfl)
    have r3 := R.1 3 (Nat.le_of_ble_eq_true rfl)
    rw [r0.2.2.1, r0.2.2.2, r1.2.2.1, r1.2.2.2, r2.2.2.1, r2.2.2.2, r3.2.2.1, r3.2.2.2]
    have e0 : updL [] p.1 p.2 = [p] := updL_take N (i := 0) (Nat.succ_pos _)
    have e1 : updL [p] q.1 q.2 = [p, q] := updL_take N (i := 1) (Nat.le_of_ble_eq_true rfl)
    have e2 : updL [p, q] r.1 r.2 = [p, q, r] := updL_take N (i := 2) (Nat.le_of_ble_eq_true rfl)
    have e3 : updL [p, q, r] t.1 t.2 = [p, q, r, t] := updL_take N (i := 3) (Nat.le_of_ble_eq_true rfl)
    show updL (updL (updL (updL [] p.1 p.2) q.1 q.2) r.1 r.2) t.1 t.2 = _
    rw [e0, e1, e2, e3]
theorem and7 (u : Int32) : u &&& 7 = 0 ∨ u &&& 7 = 1 ∨ u &&& 7 = 2 ∨ u &&& 7 = 3 ∨ u &&& 7 = 4 ∨ u &&& 7 = 5 ∨ u &&& 7 = 6 ∨ u &&& 7 = 7 := by
  have q := c_and u 7 (by decide)
  have e : u &&& 7 = (u &&& 7).toInt.toNat.toInt32 := Int32.toInt_inj.mp (by rw [len_toInt (by have := q.2; have : (7 : Int32).toInt = 7 := (by decide); omega)]; have := q.1; omega)
  have hl : (u &&& 7).toInt.toNat < 8 := by have := q.2; have : (7 : Int32).toInt = 7 := (by decide); omega
  rw [e]
  generalize (u &&& 7).toInt.toNat = k at hl
  revert k; decide +kernel
theorem i2c8m {m : Int32} (hm : m = 3 ∨ m = 255) (u : Int32) : rng8 ((u &&& m).toUInt32.toUInt16.toUInt32.toInt32) := by
  rcases hm with rfl | rfl
  · have q := c_and u 3 (by decide)
    have e : u &&& 3 = (u &&& 3).toInt.toNat.toInt32 := Int32.toInt_inj.mp (by rw [len_toInt (by have := q.2; have : (3 : Int32).toInt = 3 := (by decide); omega)]; have := q.1; omega)
    have hl : (u &&& 3).toInt.toNat < 4 := by have := q.2; have : (3 : Int32).toInt = 3 := (by decide); omega
    rw [e]
    generalize (u &&& 3).toInt.toNat = k at hl
    have key : ∀ k, k < 4 → 0 ≤ (k.toInt32.toUInt32.toUInt16.toUInt32.toInt32).toInt ∧ (k.toInt32.toUInt32.toUInt16.toUInt32.toInt32).toInt ≤ 255 := by decide +kernel
    exact key k hl
  · exact i2c8 u
/-- X holds the signs of the entries, in order -/
def XP (X : List Value) (es : List (Int32 × Value)) : Prop := X.length = 4 ∧ ∀ i (h : i < es.length), X[i]? = some (.int es[i].1)
theorem keys_updL {x : Int32} : (∃ p ∈ updL es c v, p.1 = x) ↔ (∃ p ∈ es, p.1 = x) ∨ c = x := by
  unfold updL
  split
  · rename_i hex
    constructor
    · rintro ⟨p, hp, rfl⟩
      obtain ⟨q, hq, rfl⟩ := List.mem_map.mp hp
      split
      · exact Or.inr rfl
      · exact Or.inl ⟨q, hq, rfl⟩
    · rintro (⟨p, hp, rfl⟩ | rfl)
      · refine ⟨_, List.mem_map.mpr ⟨p, hp, rfl⟩, ?_⟩
        split
        · rename_i e; exact e.symm
        · rfl
      · obtain ⟨p, hp, e⟩ := hex
        exact ⟨_, List.mem_map.mpr ⟨p, hp, rfl⟩, by rw [if_pos e]⟩
  · constructor
    · rintro ⟨p, hp, rfl⟩
      rcases List.mem_append.mp hp with q | q
      · exact Or.inl ⟨p, q, rfl⟩
      · simp at q; subst q; exact Or.inr rfl
    · rintro (⟨p, hp, rfl⟩ | rfl)
      · exact ⟨p, List.mem_append_left _ hp, rfl⟩
      · exact ⟨_, List.mem_append_right _ (List.mem_singleton.mpr rfl), rfl⟩
theorem XP.old {X : List Value} (h : XP X es) (hx : ∃ p ∈ es, p.1 = c) : XP X (updL es c v) ∧ (updL es c v).length = es.length := by
  have eu : updL es c v = es.map (fun p => if p.1 = c then (c, v) else p) := if_pos hx
  have el : (updL es c v).length = es.length := by rw [eu, List.length_map]
  refine ⟨⟨h.1, fun i hi => ?_⟩, el⟩
  rw [el] at hi
  have eg : (updL es c v)[i]'(by rw [el]; exact hi) = if es[i].1 = c then (c, v) else es[i] := by simp [eu]
  rw [eg, h.2 i hi]
  split
  · rename_i e; rw [e]
  · rfl
theorem XP.new {X : List Value} (h : XP X es) (hx : ¬ ∃ p ∈ es, p.1 = c) (hl : es.length < 4) : XP (X.set es.length (.int c)) (updL es c v) ∧ (updL es c v).length = es.length + 1 := by
  have eu : updL es c v = es ++ [(c, v)] := if_neg hx
  have el : (updL es c v).length = es.length + 1 := by rw [eu]; simp
  refine ⟨⟨by rw [List.length_set]; exact h.1, fun i hi => ?_⟩, el⟩
  rw [el] at hi
  rw [List.getElem?_set]
  by_cases e : es.length = i
  · subst e
    have eg : (updL es c v)[es.length]'(by rw [el]; omega) = (c, v) := by simp [eu]
    rw [eg, if_pos rfl, if_pos (by rw [h.1]; exact hl)]
  · have hi' : i < es.length := by omega
    have eg : (updL es c v)[i]'(by rw [el]; omega) = es[i] := by simp [eu, List.getElem_append_left hi']
    rw [eg, if_neg e, h.2 i hi']
end Jvm.Own
namespace Jvm.Own
open Sem ClassFile Op Lib Jvm.Stand Jvm.Free Jvm.LawKit Jvm.RoadKit
variable {Z : State} {h : Heap} {cs tl : List (Addr × Pc)} {a b s : Addr} {c : Int32} {p q : Pc}
theorem SOK.ne (G : HS Z h ((s, p) :: cs)) (u : ∀ q ∈ tl, q ∈ cs) (x : SOK tl a c) : ¬ (a = s) := by
  obtain ⟨_, b, kb, hv, zv, h1, _⟩ := x
  intro e
  subst e
  have nd := G.2.2
  rw [List.map_cons, List.nodup_cons] at nd
  exact nd.1 (List.mem_map.mpr ⟨_, u _ h1, rfl⟩)
theorem ltI {i z : Nat} (hi : i < 2 ^ 31) (hz : z < 2 ^ 31) : (i.toInt32 < z.toInt32) ↔ i < z := by
  rw [Int32.lt_iff_toInt_lt, len_toInt hi, len_toInt hz]; omega
end Jvm.Own
namespace Jvm.Own
theorem XP.one {c : Int32} {v : Value} : XP [.int c, .int 0, .int 0, .int 0] (updL [] c v) ∧ (updL [] c v).length = 1 := by
  rw [u0]
  refine ⟨⟨rfl, fun i hi => ?_⟩, rfl⟩
  have : i = 0 := by simpa using hi
  subst this; rfl
theorem nk0 {x : Int32} : ¬ ∃ p ∈ ([] : List (Int32 × Value)), p.1 = x := by rintro ⟨p, hp, _⟩; cases hp
theorem nk {es : List (Int32 × Value)} {c x : Int32} {v : Value} (h0 : ¬ ∃ p ∈ es, p.1 = x) (h : ¬ (x = c)) : ¬ ∃ p ∈ updL es c v, p.1 = x := fun q => (keys_updL.mp q).elim h0 fun e => h e.symm
end Jvm.Own
namespace Jvm.Own
open Sem ClassFile Op Lib Jvm.Stand Jvm.Free Jvm.LawKit Jvm.RoadKit
section Priv
variable {l : Launch} {Z : State} {R : Room} {K : Ctx} {Q : Option Value → Heap → Prop} {h : Heap} {cc ss pc : Nat} {ls : Array Slot} {st : List Value} {y : MethodName} {code : ByteArray} {maxL : Nat} {ret : Option FieldType} {a0 : Array Value} {ts : List Jvm.Cond}
/-- a private method, where the sheet bears no 'selects' for it -/
theorem W.callQ (ok : Ok Z K y code maxL ret) (tb : Tb Z a0 ts) {idx kk : Nat} {z : MethodName} {code' : ByteArray} {maxL' : Nat} {ret' : Option FieldType} {rm : Room} {Q' : Option Value → Heap → Prop} {ps : List FieldType} {rt : Option FieldType} {a : Addr} {C : String} {argsL rest : List Value}
    (i1 i2 i3 i4 i5 i6 : Nat) (w1 : ts[i1]? = some (.methodLink y.cls idx z)) (w2 : ts[i2]? = some (.instanceMethod z)) (w3 : ts[i3]? = some (.instantiable z.cls kk)) (w4 : ts[i4]? = some (.privateMethod z)) (w5 : ts[i5]? = some (.code z code' maxL' ret')) (w6 : ts[i6]? = some (.initialized z.cls))
    (E : Exa Z h a C)
    (hd : decode code pc = .ok (.invokevirtual idx, 3)) (hpd : parseMethodDescriptor z.desc = some ⟨ps, rt⟩) (con : Con l Z z code' maxL' ret' rm (.ref a :: argsL).toArray h Q') (wgt cc' ss' pc' : Nat)
    (H : ∀ v h', Q' v h' → W l Z R K Q h' cc' ss' pc' ls (v.toList ++ rest))
    (hm : z.cls ≠ "java/lang/invoke/MethodHandle" ∧ z.cls ≠ "java/lang/invoke/VarHandle" := by decide) (hlen : argsL.length = ps.length := by rfl) (hst : st = argsL.reverse ++ .ref a :: rest := by rfl) (hW : (rest.map fun v => v.category).sum ≤ wgt := by exact Nat.le_refl _)
    (hf : rm.frames + 1 ≤ R.frames := by decide) (hl : wgt + (maxL' + 11) + rm.locals ≤ R.locals := by decide) (hc : cc' ≤ R.cells := by decide) (hs : ss' ≤ R.slots := by decide) (hc' : cc + rm.cells = cc' := by rfl) (hs' : ss + rm.slots = ss' := by rfl) (hsz : ls.size = maxL := by rfl) (hp : pc + 3 = pc' := by rfl) :
    W l Z R K Q h cc ss pc ls st := by
  subst hst hc' hs' hp
  intro T L X N e
  obtain ⟨cq, q1, q2⟩ := E.cell
  have hpriv := Cond.privateMethod_at (mvP ok.2.1 (tb _ (List.mem_of_getElem? w4)) (args := #[]))
  obtain ⟨ci, ki, u1, u2, u3, u4, -⟩ := Cond.instantiable_spec (mvT (args := K.args) ok.2.1 (tb _ (List.mem_of_getElem? w3)))
  have hsel := selects_self_of_private (args := K.args) u1 u2 (by simp only [Bool.or_eq_false_iff] at u4; exact u4.1) hpriv (mvT ok.2.1 (tb _ (List.mem_of_getElem? w2))) hm
  obtain ⟨v, _, ⟨T', L', k', n'⟩, -, X', ⟨Lc, hQ, l1, l2, l3⟩, stp⟩ := X.privateBack ok.1 (y := z) ok.2.2.2.2.1 (mvT ok.2.1 (tb _ (List.mem_of_getElem? w1))) (mvT ok.2.1 (tb _ (List.mem_of_getElem? w2))) hsel hpriv (mvT ok.2.1 (tb _ (List.mem_of_getElem? w5))) hm
    (backOf (W := wgt) (Q := fun v h L => Q' v h ∧ Fr Z.heap.size L) (con []) ok.2.1 (tb _ (List.mem_of_getElem? w5)) (tb _ (List.mem_of_getElem? w6)) hf hl) (g := mkF K.m pc ls (argsL.reverse ++ .ref a :: rest)) rfl (hsz.trans ok.2.2.2.1.symm) (Steps.refl _) (a := a) (by rw [e]; exact q1) q2 (argsL := argsL) (rest := rest) (lenOf hpd hlen) rfl (by simpa using hW) (hb ok.2.2.1 hd) (fun _ _ => ⟨rfl, e, hc, hs⟩)
  dsimp only [Pt.U, Pt.locs, Pt.cells, Pt.slots] at X' l1 l2 l3 stp hQ
  subst l1 l2 l3
  exact Ends.step (fun t k => stp.trans k) (H v T'.heap hQ.1 T' _ X' (N.app hQ.2) rfl)
end Priv
end Jvm.Own
namespace Jvm.Own
theorem ite10 {c d : Int32} (h : (if c = d then (1 : Int32) else 0) = 0) : some (Value.int 0) = some (.int (if c = d then 1 else 0)) := by rw [h]
theorem ite11 {c d : Int32} (h : ¬ ((if c = d then (1 : Int32) else 0) = 0)) : some (Value.int 1) = some (.int (if c = d then 1 else 0)) := by split at h <;> simp_all
end Jvm.Own
namespace Jvm.Pilot.@@N@@
open Jvm Jvm.ClassFile Sem Op Lib Jvm.Free Jvm.Stand Jvm.LawKit Jvm.RoadKit Bundle Jvm.Pilot.@@N@@.Jvm.D
theorem d_jdk_43_method_3_0 : decode jdk_43_method_3_code 0 = .ok (.iload_n 0, 1) := by decide +kernel
theorem d_jdk_43_method_3_1 : decode jdk_43_method_3_code 1 = .ok (.sipush 255, 3) := by decide +kernel
theorem d_jdk_43_method_3_4 : decode jdk_43_method_3_code 4 = .ok (.if_icmp .gt 7, 3) := by decide +kernel
theorem d_jdk_43_method_3_7 : decode jdk_43_method_3_code 7 = .ok (.iconst 1, 1) := by decide +kernel
theorem d_jdk_43_method_3_8 : decode jdk_43_method_3_code 8 = .ok (.goto 4, 3) := by decide +kernel
theorem d_jdk_43_method_3_12 : decode jdk_43_method_3_code 12 = .ok (.ireturn, 1) := by decide +kernel
theorem d_jdk_43_method_46_0 : decode jdk_43_method_46_code 0 = .ok (.iconst 1, 1) := by decide +kernel
theorem d_jdk_43_method_46_1 : decode jdk_43_method_46_code 1 = .ok (.newarray .byte, 2) := by decide +kernel
theorem d_jdk_43_method_46_3 : decode jdk_43_method_46_code 3 = .ok (.dup, 1) := by decide +kernel
theorem d_jdk_43_method_46_4 : decode jdk_43_method_46_code 4 = .ok (.iconst 0, 1) := by decide +kernel
theorem d_jdk_43_method_46_5 : decode jdk_43_method_46_code 5 = .ok (.iload_n 0, 1) := by decide +kernel
theorem d_jdk_43_method_46_6 : decode jdk_43_method_46_code 6 = .ok (.i2b, 1) := by decide +kernel
theorem d_jdk_43_method_46_7 : decode jdk_43_method_46_code 7 = .ok (.bastore, 1) := by decide +kernel
theorem d_jdk_43_method_46_8 : decode jdk_43_method_46_code 8 = .ok (.areturn, 1) := by decide +kernel
theorem d_jdk_42_method_151_0 : decode jdk_42_method_151_code 0 = .ok (.aload_n 0, 1) := by decide +kernel
theorem d_jdk_42_method_151_1 : decode jdk_42_method_151_code 1 = .ok (.invokespecial 1, 3) := by decide +kernel
theorem d_jdk_42_method_151_4 : decode jdk_42_method_151_code 4 = .ok (.aload_n 0, 1) := by decide +kernel
theorem d_jdk_42_method_151_5 : decode jdk_42_method_151_code 5 = .ok (.aload_n 1, 1) := by decide +kernel
theorem d_jdk_42_method_151_6 : decode jdk_42_method_151_code 6 = .ok (.putfield 9, 3) := by decide +kernel
theorem d_jdk_42_method_151_9 : decode jdk_42_method_151_code 9 = .ok (.aload_n 0, 1) := by decide +kernel
theorem d_jdk_42_method_151_10 : decode jdk_42_method_151_code 10 = .ok (.iload_n 2, 1) := by decide +kernel
theorem d_jdk_42_method_151_11 : decode jdk_42_method_151_code 11 = .ok (.putfield 15, 3) := by decide +kernel
theorem d_jdk_42_method_151_14 : decode jdk_42_method_151_code 14 = .ok (.return_, 1) := by decide +kernel
theorem d_jdk_42_method_139_0 : decode jdk_42_method_139_code 0 = .ok (.getstatic 38, 3) := by decide +kernel
theorem d_jdk_42_method_139_3 : decode jdk_42_method_139_code 3 = .ok (.ifCond .eq 23, 3) := by decide +kernel
theorem d_jdk_42_method_139_6 : decode jdk_42_method_139_code 6 = .ok (.iload_n 0, 1) := by decide +kernel
theorem d_jdk_42_method_139_7 : decode jdk_42_method_139_code 7 = .ok (.invokestatic 1015, 3) := by decide +kernel
theorem pd_0 : parseMethodDescriptor "(C)Z" = some ⟨[.char], some .boolean⟩ := by decide +kernel
theorem d_jdk_42_method_139_10 : decode jdk_42_method_139_code 10 = .ok (.ifCond .eq 16, 3) := by decide +kernel
theorem d_jdk_42_method_139_13 : decode jdk_42_method_139_code 13 = .ok (.new 10, 3) := by decide +kernel
theorem d_jdk_42_method_139_16 : decode jdk_42_method_139_code 16 = .ok (.dup, 1) := by decide +kernel
theorem d_jdk_42_method_139_17 : decode jdk_42_method_139_code 17 = .ok (.iload_n 0, 1) := by decide +kernel
theorem d_jdk_42_method_139_18 : decode jdk_42_method_139_code 18 = .ok (.invokestatic 1018, 3) := by decide +kernel
theorem pd_1 : parseMethodDescriptor "(C)[B" = some ⟨[.char], some (.array .byte)⟩ := by decide +kernel
theorem d_jdk_42_method_139_21 : decode jdk_42_method_139_code 21 = .ok (.iconst 0, 1) := by decide +kernel
theorem d_jdk_42_method_139_22 : decode jdk_42_method_139_code 22 = .ok (.invokespecial 209, 3) := by decide +kernel
theorem pd_2 : parseMethodDescriptor "([BB)V" = some ⟨[(.array .byte), .byte], none⟩ := by decide +kernel
theorem d_jdk_42_method_139_25 : decode jdk_42_method_139_code 25 = .ok (.areturn, 1) := by decide +kernel
theorem d_jdk_42_method_154_0 : decode jdk_42_method_154_code 0 = .ok (.getstatic 38, 3) := by decide +kernel
theorem d_jdk_42_method_154_3 : decode jdk_42_method_154_code 3 = .ok (.ifCond .eq 14, 3) := by decide +kernel
theorem d_jdk_42_method_154_6 : decode jdk_42_method_154_code 6 = .ok (.aload_n 0, 1) := by decide +kernel
theorem d_jdk_42_method_154_7 : decode jdk_42_method_154_code 7 = .ok (.getfield 15, 3) := by decide +kernel
theorem d_jdk_42_method_154_10 : decode jdk_42_method_154_code 10 = .ok (.ifCond .ne 7, 3) := by decide +kernel
theorem d_jdk_42_method_154_13 : decode jdk_42_method_154_code 13 = .ok (.iconst 1, 1) := by decide +kernel
theorem d_jdk_42_method_154_14 : decode jdk_42_method_154_code 14 = .ok (.goto 4, 3) := by decide +kernel
theorem d_jdk_42_method_154_18 : decode jdk_42_method_154_code 18 = .ok (.ireturn, 1) := by decide +kernel
theorem d_jdk_43_method_21_0 : decode jdk_43_method_21_code 0 = .ok (.aload_n 0, 1) := by decide +kernel
theorem d_jdk_43_method_21_1 : decode jdk_43_method_21_code 1 = .ok (.arraylength, 1) := by decide +kernel
theorem d_jdk_43_method_21_2 : decode jdk_43_method_21_code 2 = .ok (.lookupswitch 40 #[(0, 26), (1, 30)], 26) := by decide +kernel
theorem d_jdk_43_method_21_32 : decode jdk_43_method_21_code 32 = .ok (.aload_n 0, 1) := by decide +kernel
theorem d_jdk_43_method_21_33 : decode jdk_43_method_21_code 33 = .ok (.iconst 0, 1) := by decide +kernel
theorem d_jdk_43_method_21_34 : decode jdk_43_method_21_code 34 = .ok (.baload, 1) := by decide +kernel
theorem d_jdk_43_method_21_35 : decode jdk_43_method_21_code 35 = .ok (.sipush 255, 3) := by decide +kernel
theorem d_jdk_43_method_21_38 : decode jdk_43_method_21_code 38 = .ok (.iand, 1) := by decide +kernel
theorem d_jdk_43_method_21_39 : decode jdk_43_method_21_code 39 = .ok (.goto 12, 3) := by decide +kernel
theorem d_jdk_43_method_21_51 : decode jdk_43_method_21_code 51 = .ok (.ireturn, 1) := by decide +kernel
theorem d_jdk_42_method_78_0 : decode jdk_42_method_78_code 0 = .ok (.aload_n 0, 1) := by decide +kernel
theorem d_jdk_42_method_78_1 : decode jdk_42_method_78_code 1 = .ok (.getfield 19, 3) := by decide +kernel
theorem d_jdk_42_method_78_4 : decode jdk_42_method_78_code 4 = .ok (.istore_n 1, 1) := by decide +kernel
theorem d_jdk_42_method_78_5 : decode jdk_42_method_78_code 5 = .ok (.iload_n 1, 1) := by decide +kernel
theorem d_jdk_42_method_78_6 : decode jdk_42_method_78_code 6 = .ok (.ifCond .ne 52, 3) := by decide +kernel
theorem d_jdk_42_method_78_9 : decode jdk_42_method_78_code 9 = .ok (.aload_n 0, 1) := by decide +kernel
theorem d_jdk_42_method_78_10 : decode jdk_42_method_78_code 10 = .ok (.getfield 23, 3) := by decide +kernel
theorem d_jdk_42_method_78_13 : decode jdk_42_method_78_code 13 = .ok (.ifCond .ne 45, 3) := by decide +kernel
theorem d_jdk_42_method_78_16 : decode jdk_42_method_78_code 16 = .ok (.aload_n 0, 1) := by decide +kernel
theorem d_jdk_42_method_78_17 : decode jdk_42_method_78_code 17 = .ok (.invokevirtual 492, 3) := by decide +kernel
theorem pd_3 : parseMethodDescriptor "()Z" = some ⟨[], some .boolean⟩ := by decide +kernel
theorem d_jdk_42_method_78_20 : decode jdk_42_method_78_code 20 = .ok (.ifCond .eq 13, 3) := by decide +kernel
theorem d_jdk_42_method_78_23 : decode jdk_42_method_78_code 23 = .ok (.aload_n 0, 1) := by decide +kernel
theorem d_jdk_42_method_78_24 : decode jdk_42_method_78_code 24 = .ok (.getfield 9, 3) := by decide +kernel
theorem d_jdk_42_method_78_27 : decode jdk_42_method_78_code 27 = .ok (.invokestatic 628, 3) := by decide +kernel
theorem pd_4 : parseMethodDescriptor "([B)I" = some ⟨[(.array .byte)], some .int⟩ := by decide +kernel
theorem d_jdk_42_method_78_30 : decode jdk_42_method_78_code 30 = .ok (.goto 10, 3) := by decide +kernel
theorem d_jdk_42_method_78_40 : decode jdk_42_method_78_code 40 = .ok (.istore_n 1, 1) := by decide +kernel
theorem d_jdk_42_method_78_41 : decode jdk_42_method_78_code 41 = .ok (.iload_n 1, 1) := by decide +kernel
theorem d_jdk_42_method_78_42 : decode jdk_42_method_78_code 42 = .ok (.ifCond .ne 11, 3) := by decide +kernel
theorem d_jdk_42_method_78_53 : decode jdk_42_method_78_code 53 = .ok (.aload_n 0, 1) := by decide +kernel
theorem d_jdk_42_method_78_54 : decode jdk_42_method_78_code 54 = .ok (.iload_n 1, 1) := by decide +kernel
theorem d_jdk_42_method_78_55 : decode jdk_42_method_78_code 55 = .ok (.putfield 19, 3) := by decide +kernel
theorem d_jdk_42_method_78_58 : decode jdk_42_method_78_code 58 = .ok (.iload_n 1, 1) := by decide +kernel
theorem d_jdk_42_method_78_59 : decode jdk_42_method_78_code 59 = .ok (.ireturn, 1) := by decide +kernel
theorem d_jdk_42_method_78_45 : decode jdk_42_method_78_code 45 = .ok (.aload_n 0, 1) := by decide +kernel
theorem d_jdk_42_method_78_46 : decode jdk_42_method_78_code 46 = .ok (.iconst 1, 1) := by decide +kernel
theorem d_jdk_42_method_78_47 : decode jdk_42_method_78_code 47 = .ok (.putfield 23, 3) := by decide +kernel
theorem d_jdk_42_method_78_50 : decode jdk_42_method_78_code 50 = .ok (.goto 8, 3) := by decide +kernel
theorem d_jdk_43_method_13_0 : decode jdk_43_method_13_code 0 = .ok (.aload_n 0, 1) := by decide +kernel
theorem d_jdk_43_method_13_1 : decode jdk_43_method_13_code 1 = .ok (.arraylength, 1) := by decide +kernel
theorem d_jdk_43_method_13_2 : decode jdk_43_method_13_code 2 = .ok (.aload_n 1, 1) := by decide +kernel
theorem d_jdk_43_method_13_3 : decode jdk_43_method_13_code 3 = .ok (.arraylength, 1) := by decide +kernel
theorem d_jdk_43_method_13_4 : decode jdk_43_method_13_code 4 = .ok (.if_icmp .ne 30, 3) := by decide +kernel
theorem d_jdk_43_method_13_7 : decode jdk_43_method_13_code 7 = .ok (.iconst 0, 1) := by decide +kernel
theorem d_jdk_43_method_13_8 : decode jdk_43_method_13_code 8 = .ok (.istore_n 2, 1) := by decide +kernel
theorem d_jdk_43_method_13_9 : decode jdk_43_method_13_code 9 = .ok (.iload_n 2, 1) := by decide +kernel
theorem d_jdk_43_method_13_10 : decode jdk_43_method_13_code 10 = .ok (.aload_n 0, 1) := by decide +kernel
theorem d_jdk_43_method_13_11 : decode jdk_43_method_13_code 11 = .ok (.arraylength, 1) := by decide +kernel
theorem d_jdk_43_method_13_12 : decode jdk_43_method_13_code 12 = .ok (.if_icmp .ge 20, 3) := by decide +kernel
theorem d_jdk_43_method_13_15 : decode jdk_43_method_13_code 15 = .ok (.aload_n 0, 1) := by decide +kernel
theorem d_jdk_43_method_13_16 : decode jdk_43_method_13_code 16 = .ok (.iload_n 2, 1) := by decide +kernel
theorem d_jdk_43_method_13_17 : decode jdk_43_method_13_code 17 = .ok (.baload, 1) := by decide +kernel
theorem d_jdk_43_method_13_18 : decode jdk_43_method_13_code 18 = .ok (.aload_n 1, 1) := by decide +kernel
theorem d_jdk_43_method_13_19 : decode jdk_43_method_13_code 19 = .ok (.iload_n 2, 1) := by decide +kernel
theorem d_jdk_43_method_13_20 : decode jdk_43_method_13_code 20 = .ok (.baload, 1) := by decide +kernel
theorem d_jdk_43_method_13_21 : decode jdk_43_method_13_code 21 = .ok (.if_icmp .eq 5, 3) := by decide +kernel
theorem d_jdk_43_method_13_26 : decode jdk_43_method_13_code 26 = .ok (.iinc 2 1, 3) := by decide +kernel
theorem d_jdk_43_method_13_29 : decode jdk_43_method_13_code 29 = .ok (.goto (-20), 3) := by decide +kernel
theorem d_jdk_43_method_13_32 : decode jdk_43_method_13_code 32 = .ok (.iconst 1, 1) := by decide +kernel
theorem d_jdk_43_method_13_33 : decode jdk_43_method_13_code 33 = .ok (.ireturn, 1) := by decide +kernel
theorem d_jdk_43_method_13_24 : decode jdk_43_method_13_code 24 = .ok (.iconst 0, 1) := by decide +kernel
theorem d_jdk_43_method_13_25 : decode jdk_43_method_13_code 25 = .ok (.ireturn, 1) := by decide +kernel
theorem d_jdk_42_method_66_0 : decode jdk_42_method_66_code 0 = .ok (.aload_n 0, 1) := by decide +kernel
theorem d_jdk_42_method_66_1 : decode jdk_42_method_66_code 1 = .ok (.aload_n 1, 1) := by decide +kernel
theorem d_jdk_42_method_66_2 : decode jdk_42_method_66_code 2 = .ok (.if_acmp .ne 5, 3) := by decide +kernel
theorem d_jdk_42_method_66_7 : decode jdk_42_method_66_code 7 = .ok (.aload_n 1, 1) := by decide +kernel
theorem d_jdk_42_method_66_8 : decode jdk_42_method_66_code 8 = .ok (.instanceof 10, 3) := by decide +kernel
theorem d_jdk_42_method_66_11 : decode jdk_42_method_66_code 11 = .ok (.ifCond .eq 43, 3) := by decide +kernel
theorem d_jdk_42_method_66_14 : decode jdk_42_method_66_code 14 = .ok (.aload_n 1, 1) := by decide +kernel
theorem d_jdk_42_method_66_15 : decode jdk_42_method_66_code 15 = .ok (.checkcast 10, 3) := by decide +kernel
theorem d_jdk_42_method_66_18 : decode jdk_42_method_66_code 18 = .ok (.astore_n 2, 1) := by decide +kernel
theorem d_jdk_42_method_66_19 : decode jdk_42_method_66_code 19 = .ok (.getstatic 38, 3) := by decide +kernel
theorem d_jdk_42_method_66_22 : decode jdk_42_method_66_code 22 = .ok (.ifCond .eq 14, 3) := by decide +kernel
theorem d_jdk_42_method_66_25 : decode jdk_42_method_66_code 25 = .ok (.aload_n 0, 1) := by decide +kernel
theorem d_jdk_42_method_66_26 : decode jdk_42_method_66_code 26 = .ok (.getfield 15, 3) := by decide +kernel
theorem d_jdk_42_method_66_29 : decode jdk_42_method_66_code 29 = .ok (.aload_n 2, 1) := by decide +kernel
theorem d_jdk_42_method_66_30 : decode jdk_42_method_66_code 30 = .ok (.getfield 15, 3) := by decide +kernel
theorem d_jdk_42_method_66_33 : decode jdk_42_method_66_code 33 = .ok (.if_icmp .ne 21, 3) := by decide +kernel
theorem d_jdk_42_method_66_36 : decode jdk_42_method_66_code 36 = .ok (.aload_n 0, 1) := by decide +kernel
theorem d_jdk_42_method_66_37 : decode jdk_42_method_66_code 37 = .ok (.getfield 9, 3) := by decide +kernel
theorem d_jdk_42_method_66_40 : decode jdk_42_method_66_code 40 = .ok (.aload_n 2, 1) := by decide +kernel
theorem d_jdk_42_method_66_41 : decode jdk_42_method_66_code 41 = .ok (.getfield 9, 3) := by decide +kernel
theorem d_jdk_42_method_66_44 : decode jdk_42_method_66_code 44 = .ok (.invokestatic 541, 3) := by decide +kernel
theorem pd_5 : parseMethodDescriptor "([B[B)Z" = some ⟨[(.array .byte), (.array .byte)], some .boolean⟩ := by decide +kernel
theorem d_jdk_42_method_66_47 : decode jdk_42_method_66_code 47 = .ok (.ifCond .eq 7, 3) := by decide +kernel
theorem d_jdk_42_method_66_54 : decode jdk_42_method_66_code 54 = .ok (.iconst 0, 1) := by decide +kernel
theorem d_jdk_42_method_66_55 : decode jdk_42_method_66_code 55 = .ok (.ireturn, 1) := by decide +kernel
theorem d_jdk_42_method_66_50 : decode jdk_42_method_66_code 50 = .ok (.iconst 1, 1) := by decide +kernel
theorem d_jdk_42_method_66_51 : decode jdk_42_method_66_code 51 = .ok (.goto 4, 3) := by decide +kernel
theorem d_prog_12_method_5_0 : decode prog_12_method_5_code 0 = .ok (.aload_n 0, 1) := by decide +kernel
theorem d_prog_12_method_5_1 : decode prog_12_method_5_code 1 = .ok (.getfield 21, 3) := by decide +kernel
theorem d_prog_12_method_5_4 : decode prog_12_method_5_code 4 = .ok (.arraylength, 1) := by decide +kernel
theorem d_prog_12_method_5_5 : decode prog_12_method_5_code 5 = .ok (.iconst 1, 1) := by decide +kernel
theorem d_prog_12_method_5_6 : decode prog_12_method_5_code 6 = .ok (.isub, 1) := by decide +kernel
theorem d_prog_12_method_5_7 : decode prog_12_method_5_code 7 = .ok (.istore_n 3, 1) := by decide +kernel
theorem d_prog_12_method_5_8 : decode prog_12_method_5_code 8 = .ok (.aload_n 1, 1) := by decide +kernel
theorem d_prog_12_method_5_9 : decode prog_12_method_5_code 9 = .ok (.invokevirtual 41, 3) := by decide +kernel
theorem pd_6 : parseMethodDescriptor "()I" = some ⟨[], some .int⟩ := by decide +kernel
theorem d_prog_12_method_5_12 : decode prog_12_method_5_code 12 = .ok (.iload_n 3, 1) := by decide +kernel
theorem d_prog_12_method_5_13 : decode prog_12_method_5_code 13 = .ok (.iand, 1) := by decide +kernel
theorem d_prog_12_method_5_14 : decode prog_12_method_5_code 14 = .ok (.istore 4, 2) := by decide +kernel
theorem d_prog_12_method_5_16 : decode prog_12_method_5_code 16 = .ok (.aload_n 0, 1) := by decide +kernel
theorem d_prog_12_method_5_62 : decode prog_12_method_5_code 62 = .ok (.aload_n 0, 1) := by decide +kernel
theorem d_prog_12_method_5_63 : decode prog_12_method_5_code 63 = .ok (.getfield 29, 3) := by decide +kernel
theorem d_prog_12_method_5_66 : decode prog_12_method_5_code 66 = .ok (.iload 4, 2) := by decide +kernel
theorem d_prog_12_method_5_68 : decode prog_12_method_5_code 68 = .ok (.aaload, 1) := by decide +kernel
theorem d_prog_12_method_5_69 : decode prog_12_method_5_code 69 = .ok (.astore 5, 2) := by decide +kernel
theorem d_prog_12_method_5_71 : decode prog_12_method_5_code 71 = .ok (.aload_n 0, 1) := by decide +kernel
theorem d_prog_12_method_5_72 : decode prog_12_method_5_code 72 = .ok (.getfield 29, 3) := by decide +kernel
theorem d_prog_12_method_5_75 : decode prog_12_method_5_code 75 = .ok (.iload 4, 2) := by decide +kernel
theorem d_prog_12_method_5_77 : decode prog_12_method_5_code 77 = .ok (.aload_n 2, 1) := by decide +kernel
theorem d_prog_12_method_5_78 : decode prog_12_method_5_code 78 = .ok (.aastore, 1) := by decide +kernel
theorem d_prog_12_method_5_79 : decode prog_12_method_5_code 79 = .ok (.aload_n 0, 1) := by decide +kernel
theorem d_prog_12_method_5_80 : decode prog_12_method_5_code 80 = .ok (.getfield 21, 3) := by decide +kernel
theorem d_prog_12_method_5_83 : decode prog_12_method_5_code 83 = .ok (.iload 4, 2) := by decide +kernel
theorem d_prog_12_method_5_85 : decode prog_12_method_5_code 85 = .ok (.aaload, 1) := by decide +kernel
theorem d_prog_12_method_5_86 : decode prog_12_method_5_code 86 = .ok (.ifnonnull 47, 3) := by decide +kernel
theorem d_prog_12_method_5_89 : decode prog_12_method_5_code 89 = .ok (.aload_n 0, 1) := by decide +kernel
theorem d_prog_12_method_5_90 : decode prog_12_method_5_code 90 = .ok (.getfield 21, 3) := by decide +kernel
theorem d_prog_12_method_5_93 : decode prog_12_method_5_code 93 = .ok (.iload 4, 2) := by decide +kernel
theorem d_prog_12_method_5_95 : decode prog_12_method_5_code 95 = .ok (.aload_n 1, 1) := by decide +kernel
theorem d_prog_12_method_5_96 : decode prog_12_method_5_code 96 = .ok (.aastore, 1) := by decide +kernel
theorem d_prog_12_method_5_97 : decode prog_12_method_5_code 97 = .ok (.aload_n 0, 1) := by decide +kernel
theorem d_prog_12_method_5_98 : decode prog_12_method_5_code 98 = .ok (.getfield 33, 3) := by decide +kernel
theorem d_prog_12_method_5_101 : decode prog_12_method_5_code 101 = .ok (.aload_n 0, 1) := by decide +kernel
theorem d_prog_12_method_5_102 : decode prog_12_method_5_code 102 = .ok (.dup, 1) := by decide +kernel
theorem d_prog_12_method_5_103 : decode prog_12_method_5_code 103 = .ok (.getfield 53, 3) := by decide +kernel
theorem d_prog_12_method_5_106 : decode prog_12_method_5_code 106 = .ok (.dup_x1, 1) := by decide +kernel
theorem d_prog_12_method_5_107 : decode prog_12_method_5_code 107 = .ok (.iconst 1, 1) := by decide +kernel
theorem d_prog_12_method_5_108 : decode prog_12_method_5_code 108 = .ok (.iadd, 1) := by decide +kernel
theorem d_prog_12_method_5_109 : decode prog_12_method_5_code 109 = .ok (.putfield 53, 3) := by decide +kernel
theorem d_prog_12_method_5_112 : decode prog_12_method_5_code 112 = .ok (.iload 4, 2) := by decide +kernel
theorem d_prog_12_method_5_114 : decode prog_12_method_5_code 114 = .ok (.iastore, 1) := by decide +kernel
theorem d_prog_12_method_5_115 : decode prog_12_method_5_code 115 = .ok (.aload_n 0, 1) := by decide +kernel
theorem d_prog_12_method_5_116 : decode prog_12_method_5_code 116 = .ok (.getfield 53, 3) := by decide +kernel
theorem d_prog_12_method_5_119 : decode prog_12_method_5_code 119 = .ok (.iconst 2, 1) := by decide +kernel
theorem d_prog_12_method_5_120 : decode prog_12_method_5_code 120 = .ok (.imul, 1) := by decide +kernel
theorem d_prog_12_method_5_121 : decode prog_12_method_5_code 121 = .ok (.aload_n 0, 1) := by decide +kernel
theorem d_prog_12_method_5_122 : decode prog_12_method_5_code 122 = .ok (.getfield 21, 3) := by decide +kernel
theorem d_prog_12_method_5_125 : decode prog_12_method_5_code 125 = .ok (.arraylength, 1) := by decide +kernel
theorem d_prog_12_method_5_126 : decode prog_12_method_5_code 126 = .ok (.if_icmp .lt 7, 3) := by decide +kernel
theorem d_prog_12_method_5_133 : decode prog_12_method_5_code 133 = .ok (.aload 5, 2) := by decide +kernel
theorem d_prog_12_method_5_135 : decode prog_12_method_5_code 135 = .ok (.areturn, 1) := by decide +kernel
theorem d_prog_12_method_5_17 : decode prog_12_method_5_code 17 = .ok (.getfield 21, 3) := by decide +kernel
theorem d_prog_12_method_5_20 : decode prog_12_method_5_code 20 = .ok (.iload 4, 2) := by decide +kernel
theorem d_prog_12_method_5_22 : decode prog_12_method_5_code 22 = .ok (.aaload, 1) := by decide +kernel
theorem d_prog_12_method_5_23 : decode prog_12_method_5_code 23 = .ok (.ifnull 39, 3) := by decide +kernel
theorem d_prog_12_method_5_26 : decode prog_12_method_5_code 26 = .ok (.aload_n 0, 1) := by decide +kernel
theorem d_prog_12_method_5_27 : decode prog_12_method_5_code 27 = .ok (.getfield 21, 3) := by decide +kernel
theorem d_prog_12_method_5_30 : decode prog_12_method_5_code 30 = .ok (.iload 4, 2) := by decide +kernel
theorem d_prog_12_method_5_32 : decode prog_12_method_5_code 32 = .ok (.aaload, 1) := by decide +kernel
theorem d_prog_12_method_5_33 : decode prog_12_method_5_code 33 = .ok (.aload_n 1, 1) := by decide +kernel
theorem d_prog_12_method_5_34 : decode prog_12_method_5_code 34 = .ok (.if_acmp .eq 28, 3) := by decide +kernel
theorem d_prog_12_method_5_37 : decode prog_12_method_5_code 37 = .ok (.aload_n 0, 1) := by decide +kernel
theorem d_prog_12_method_5_38 : decode prog_12_method_5_code 38 = .ok (.getfield 21, 3) := by decide +kernel
theorem d_prog_12_method_5_41 : decode prog_12_method_5_code 41 = .ok (.iload 4, 2) := by decide +kernel
theorem d_prog_12_method_5_43 : decode prog_12_method_5_code 43 = .ok (.aaload, 1) := by decide +kernel
theorem d_prog_12_method_5_44 : decode prog_12_method_5_code 44 = .ok (.aload_n 1, 1) := by decide +kernel
theorem d_prog_12_method_5_45 : decode prog_12_method_5_code 45 = .ok (.invokevirtual 45, 3) := by decide +kernel
theorem pd_7 : parseMethodDescriptor "(Ljava/lang/Object;)Z" = some ⟨[(.object "java/lang/Object")], some .boolean⟩ := by decide +kernel
theorem d_prog_12_method_5_48 : decode prog_12_method_5_code 48 = .ok (.ifCond .ne 14, 3) := by decide +kernel
theorem d_prog_12_method_5_51 : decode prog_12_method_5_code 51 = .ok (.iload 4, 2) := by decide +kernel
theorem d_prog_12_method_5_53 : decode prog_12_method_5_code 53 = .ok (.iconst 1, 1) := by decide +kernel
theorem d_prog_12_method_5_54 : decode prog_12_method_5_code 54 = .ok (.iadd, 1) := by decide +kernel
theorem d_prog_12_method_5_55 : decode prog_12_method_5_code 55 = .ok (.iload_n 3, 1) := by decide +kernel
theorem d_prog_12_method_5_56 : decode prog_12_method_5_code 56 = .ok (.iand, 1) := by decide +kernel
theorem d_prog_12_method_5_57 : decode prog_12_method_5_code 57 = .ok (.istore 4, 2) := by decide +kernel
theorem d_prog_12_method_5_59 : decode prog_12_method_5_code 59 = .ok (.goto (-43), 3) := by decide +kernel
theorem d_prog_12_method_11_0 : decode prog_12_method_11_code 0 = .ok (.aload_n 0, 1) := by decide +kernel
theorem d_prog_12_method_11_1 : decode prog_12_method_11_code 1 = .ok (.getfield 21, 3) := by decide +kernel
theorem d_prog_12_method_11_4 : decode prog_12_method_11_code 4 = .ok (.astore_n 1, 1) := by decide +kernel
theorem d_prog_12_method_11_5 : decode prog_12_method_11_code 5 = .ok (.aload_n 0, 1) := by decide +kernel
theorem d_prog_12_method_11_6 : decode prog_12_method_11_code 6 = .ok (.getfield 29, 3) := by decide +kernel
theorem d_prog_12_method_11_9 : decode prog_12_method_11_code 9 = .ok (.astore_n 2, 1) := by decide +kernel
theorem d_prog_12_method_11_10 : decode prog_12_method_11_code 10 = .ok (.aload_n 0, 1) := by decide +kernel
theorem d_prog_12_method_11_11 : decode prog_12_method_11_code 11 = .ok (.getfield 33, 3) := by decide +kernel
theorem d_prog_12_method_11_14 : decode prog_12_method_11_code 14 = .ok (.astore_n 3, 1) := by decide +kernel
theorem d_prog_12_method_11_15 : decode prog_12_method_11_code 15 = .ok (.aload_n 0, 1) := by decide +kernel
theorem d_prog_12_method_11_16 : decode prog_12_method_11_code 16 = .ok (.getfield 53, 3) := by decide +kernel
theorem d_prog_12_method_11_19 : decode prog_12_method_11_code 19 = .ok (.istore 4, 2) := by decide +kernel
theorem d_prog_12_method_11_21 : decode prog_12_method_11_code 21 = .ok (.aload_n 0, 1) := by decide +kernel
theorem d_prog_12_method_11_22 : decode prog_12_method_11_code 22 = .ok (.aload_n 1, 1) := by decide +kernel
theorem d_prog_12_method_11_23 : decode prog_12_method_11_code 23 = .ok (.arraylength, 1) := by decide +kernel
theorem d_prog_12_method_11_24 : decode prog_12_method_11_code 24 = .ok (.iconst 2, 1) := by decide +kernel
theorem d_prog_12_method_11_25 : decode prog_12_method_11_code 25 = .ok (.imul, 1) := by decide +kernel
theorem d_prog_12_method_11_26 : decode prog_12_method_11_code 26 = .ok (.anewarray 19, 3) := by decide +kernel
theorem d_prog_12_method_11_29 : decode prog_12_method_11_code 29 = .ok (.putfield 21, 3) := by decide +kernel
theorem d_prog_12_method_11_32 : decode prog_12_method_11_code 32 = .ok (.aload_n 0, 1) := by decide +kernel
theorem d_prog_12_method_11_33 : decode prog_12_method_11_code 33 = .ok (.aload_n 0, 1) := by decide +kernel
theorem d_prog_12_method_11_34 : decode prog_12_method_11_code 34 = .ok (.getfield 21, 3) := by decide +kernel
theorem d_prog_12_method_11_37 : decode prog_12_method_11_code 37 = .ok (.arraylength, 1) := by decide +kernel
theorem d_prog_12_method_11_38 : decode prog_12_method_11_code 38 = .ok (.anewarray 27, 3) := by decide +kernel
theorem d_prog_12_method_11_41 : decode prog_12_method_11_code 41 = .ok (.putfield 29, 3) := by decide +kernel
theorem d_prog_12_method_11_44 : decode prog_12_method_11_code 44 = .ok (.aload_n 0, 1) := by decide +kernel
theorem d_prog_12_method_11_45 : decode prog_12_method_11_code 45 = .ok (.aload_n 0, 1) := by decide +kernel
theorem d_prog_12_method_11_46 : decode prog_12_method_11_code 46 = .ok (.getfield 21, 3) := by decide +kernel
theorem d_prog_12_method_11_49 : decode prog_12_method_11_code 49 = .ok (.arraylength, 1) := by decide +kernel
theorem d_prog_12_method_11_50 : decode prog_12_method_11_code 50 = .ok (.iconst 2, 1) := by decide +kernel
theorem d_prog_12_method_11_51 : decode prog_12_method_11_code 51 = .ok (.idiv, 1) := by decide +kernel
theorem d_prog_12_method_11_52 : decode prog_12_method_11_code 52 = .ok (.newarray .int, 2) := by decide +kernel
theorem d_prog_12_method_11_54 : decode prog_12_method_11_code 54 = .ok (.putfield 33, 3) := by decide +kernel
theorem d_prog_12_method_11_57 : decode prog_12_method_11_code 57 = .ok (.aload_n 0, 1) := by decide +kernel
theorem d_prog_12_method_11_58 : decode prog_12_method_11_code 58 = .ok (.iconst 0, 1) := by decide +kernel
theorem d_prog_12_method_11_59 : decode prog_12_method_11_code 59 = .ok (.putfield 53, 3) := by decide +kernel
theorem d_prog_12_method_11_62 : decode prog_12_method_11_code 62 = .ok (.iconst 0, 1) := by decide +kernel
theorem d_prog_12_method_11_63 : decode prog_12_method_11_code 63 = .ok (.istore 5, 2) := by decide +kernel
theorem d_prog_12_method_11_65 : decode prog_12_method_11_code 65 = .ok (.iload 5, 2) := by decide +kernel
theorem d_prog_12_method_11_67 : decode prog_12_method_11_code 67 = .ok (.iload 4, 2) := by decide +kernel
theorem d_prog_12_method_11_69 : decode prog_12_method_11_code 69 = .ok (.if_icmp .ge 26, 3) := by decide +kernel
theorem d_prog_12_method_11_72 : decode prog_12_method_11_code 72 = .ok (.aload_n 0, 1) := by decide +kernel
theorem d_prog_12_method_11_73 : decode prog_12_method_11_code 73 = .ok (.aload_n 1, 1) := by decide +kernel
theorem d_prog_12_method_11_74 : decode prog_12_method_11_code 74 = .ok (.aload_n 3, 1) := by decide +kernel
theorem d_prog_12_method_11_75 : decode prog_12_method_11_code 75 = .ok (.iload 5, 2) := by decide +kernel
theorem d_prog_12_method_11_77 : decode prog_12_method_11_code 77 = .ok (.iaload, 1) := by decide +kernel
theorem d_prog_12_method_11_78 : decode prog_12_method_11_code 78 = .ok (.aaload, 1) := by decide +kernel
theorem d_prog_12_method_11_79 : decode prog_12_method_11_code 79 = .ok (.aload_n 2, 1) := by decide +kernel
theorem d_prog_12_method_11_80 : decode prog_12_method_11_code 80 = .ok (.aload_n 3, 1) := by decide +kernel
theorem d_prog_12_method_11_81 : decode prog_12_method_11_code 81 = .ok (.iload 5, 2) := by decide +kernel
theorem d_prog_12_method_11_83 : decode prog_12_method_11_code 83 = .ok (.iaload, 1) := by decide +kernel
theorem d_prog_12_method_11_84 : decode prog_12_method_11_code 84 = .ok (.aaload, 1) := by decide +kernel
theorem d_prog_12_method_11_85 : decode prog_12_method_11_code 85 = .ok (.invokevirtual 71, 3) := by decide +kernel
theorem pd_8 : parseMethodDescriptor "(Ljava/lang/String;Ljava/lang/Object;)Ljava/lang/Object;" = some ⟨[(.object "java/lang/String"), (.object "java/lang/Object")], some (.object "java/lang/Object")⟩ := by decide +kernel
theorem d_prog_12_method_11_88 : decode prog_12_method_11_code 88 = .ok (.pop, 1) := by decide +kernel
theorem d_prog_12_method_11_89 : decode prog_12_method_11_code 89 = .ok (.iinc 5 1, 3) := by decide +kernel
theorem d_prog_12_method_11_92 : decode prog_12_method_11_code 92 = .ok (.goto (-27), 3) := by decide +kernel
theorem d_prog_12_method_11_95 : decode prog_12_method_11_code 95 = .ok (.return_, 1) := by decide +kernel
theorem d_prog_12_method_5_129 : decode prog_12_method_5_code 129 = .ok (.aload_n 0, 1) := by decide +kernel
theorem d_prog_12_method_5_130 : decode prog_12_method_5_code 130 = .ok (.invokevirtual 57, 3) := by decide +kernel
theorem pd_9 : parseMethodDescriptor "()V" = some ⟨[], none⟩ := by decide +kernel
theorem d_jdk_33_method_22_0 : decode jdk_33_method_22_code 0 = .ok (.iload_n 0, 1) := by decide +kernel
theorem d_jdk_33_method_22_1 : decode jdk_33_method_22_code 1 = .ok (.bipush (-128), 2) := by decide +kernel
theorem d_jdk_33_method_22_3 : decode jdk_33_method_22_code 3 = .ok (.if_icmp .lt 20, 3) := by decide +kernel
theorem d_jdk_33_method_22_6 : decode jdk_33_method_22_code 6 = .ok (.iload_n 0, 1) := by decide +kernel
theorem d_jdk_33_method_22_7 : decode jdk_33_method_22_code 7 = .ok (.getstatic 191, 3) := by decide +kernel
theorem d_jdk_33_method_22_10 : decode jdk_33_method_22_code 10 = .ok (.if_icmp .gt 13, 3) := by decide +kernel
theorem d_jdk_33_method_22_13 : decode jdk_33_method_22_code 13 = .ok (.getstatic 195, 3) := by decide +kernel
theorem d_jdk_33_method_22_16 : decode jdk_33_method_22_code 16 = .ok (.iload_n 0, 1) := by decide +kernel
theorem d_jdk_33_method_22_17 : decode jdk_33_method_22_code 17 = .ok (.sipush 128, 3) := by decide +kernel
theorem d_jdk_33_method_22_20 : decode jdk_33_method_22_code 20 = .ok (.iadd, 1) := by decide +kernel
theorem d_jdk_33_method_22_21 : decode jdk_33_method_22_code 21 = .ok (.aaload, 1) := by decide +kernel
theorem d_jdk_33_method_22_22 : decode jdk_33_method_22_code 22 = .ok (.areturn, 1) := by decide +kernel
theorem d_prog_12_method_7_0 : decode prog_12_method_7_code 0 = .ok (.aload_n 0, 1) := by decide +kernel
theorem d_prog_12_method_7_1 : decode prog_12_method_7_code 1 = .ok (.getfield 53, 3) := by decide +kernel
theorem d_prog_12_method_7_4 : decode prog_12_method_7_code 4 = .ok (.ireturn, 1) := by decide +kernel
theorem d_jdk_29_method_65_0 : decode jdk_29_method_65_code 0 = .ok (.iload_n 0, 1) := by decide +kernel
theorem d_jdk_29_method_65_1 : decode jdk_29_method_65_code 1 = .ok (.iload_n 1, 1) := by decide +kernel
theorem d_jdk_29_method_65_2 : decode jdk_29_method_65_code 2 = .ok (.if_icmp .lt 7, 3) := by decide +kernel
theorem d_jdk_29_method_65_9 : decode jdk_29_method_65_code 9 = .ok (.iload_n 1, 1) := by decide +kernel
theorem d_jdk_29_method_65_10 : decode jdk_29_method_65_code 10 = .ok (.ireturn, 1) := by decide +kernel
theorem d_jdk_29_method_65_5 : decode jdk_29_method_65_code 5 = .ok (.iload_n 0, 1) := by decide +kernel
theorem d_jdk_29_method_65_6 : decode jdk_29_method_65_code 6 = .ok (.goto 4, 3) := by decide +kernel
theorem d_jdk_33_method_47_0 : decode jdk_33_method_47_code 0 = .ok (.iload_n 0, 1) := by decide +kernel
theorem d_jdk_33_method_47_1 : decode jdk_33_method_47_code 1 = .ok (.ifCond .gt 14, 3) := by decide +kernel
theorem d_jdk_33_method_47_15 : decode jdk_33_method_47_code 15 = .ok (.bipush 31, 2) := by decide +kernel
theorem d_jdk_33_method_47_17 : decode jdk_33_method_47_code 17 = .ok (.istore_n 1, 1) := by decide +kernel
theorem d_jdk_33_method_47_18 : decode jdk_33_method_47_code 18 = .ok (.iload_n 0, 1) := by decide +kernel
theorem d_jdk_33_method_47_19 : decode jdk_33_method_47_code 19 = .ok (.ldc_w 264, 3) := by decide +kernel
theorem d_jdk_33_method_47_22 : decode jdk_33_method_47_code 22 = .ok (.if_icmp .lt 11, 3) := by decide +kernel
theorem d_jdk_33_method_47_33 : decode jdk_33_method_47_code 33 = .ok (.iload_n 0, 1) := by decide +kernel
theorem d_jdk_33_method_47_34 : decode jdk_33_method_47_code 34 = .ok (.sipush 256, 3) := by decide +kernel
theorem d_jdk_33_method_47_37 : decode jdk_33_method_47_code 37 = .ok (.if_icmp .lt 11, 3) := by decide +kernel
theorem d_jdk_33_method_47_48 : decode jdk_33_method_47_code 48 = .ok (.iload_n 0, 1) := by decide +kernel
theorem d_jdk_33_method_47_49 : decode jdk_33_method_47_code 49 = .ok (.bipush 16, 2) := by decide +kernel
theorem d_jdk_33_method_47_51 : decode jdk_33_method_47_code 51 = .ok (.if_icmp .lt 10, 3) := by decide +kernel
theorem d_jdk_33_method_47_61 : decode jdk_33_method_47_code 61 = .ok (.iload_n 0, 1) := by decide +kernel
theorem d_jdk_33_method_47_62 : decode jdk_33_method_47_code 62 = .ok (.iconst 4, 1) := by decide +kernel
theorem d_jdk_33_method_47_63 : decode jdk_33_method_47_code 63 = .ok (.if_icmp .lt 10, 3) := by decide +kernel
theorem d_jdk_33_method_47_73 : decode jdk_33_method_47_code 73 = .ok (.iload_n 1, 1) := by decide +kernel
theorem d_jdk_33_method_47_74 : decode jdk_33_method_47_code 74 = .ok (.iload_n 0, 1) := by decide +kernel
theorem d_jdk_33_method_47_75 : decode jdk_33_method_47_code 75 = .ok (.iconst 1, 1) := by decide +kernel
theorem d_jdk_33_method_47_76 : decode jdk_33_method_47_code 76 = .ok (.iushr, 1) := by decide +kernel
theorem d_jdk_33_method_47_77 : decode jdk_33_method_47_code 77 = .ok (.isub, 1) := by decide +kernel
theorem d_jdk_33_method_47_78 : decode jdk_33_method_47_code 78 = .ok (.ireturn, 1) := by decide +kernel
theorem d_jdk_33_method_45_0 : decode jdk_33_method_45_code 0 = .ok (.iload_n 0, 1) := by decide +kernel
theorem d_jdk_33_method_45_1 : decode jdk_33_method_45_code 1 = .ok (.ldc 127, 2) := by decide +kernel
theorem d_jdk_33_method_45_3 : decode jdk_33_method_45_code 3 = .ok (.iload_n 0, 1) := by decide +kernel
theorem d_jdk_33_method_45_4 : decode jdk_33_method_45_code 4 = .ok (.invokestatic 51, 3) := by decide +kernel
theorem pd_10 : parseMethodDescriptor "(I)I" = some ⟨[.int], some .int⟩ := by decide +kernel
theorem d_jdk_33_method_45_7 : decode jdk_33_method_45_code 7 = .ok (.iushr, 1) := by decide +kernel
theorem d_jdk_33_method_45_8 : decode jdk_33_method_45_code 8 = .ok (.iand, 1) := by decide +kernel
theorem d_jdk_33_method_45_9 : decode jdk_33_method_45_code 9 = .ok (.ireturn, 1) := by decide +kernel
theorem d_jdk_33_method_47_66 : decode jdk_33_method_47_code 66 = .ok (.iinc 1 (-2), 3) := by decide +kernel
theorem d_jdk_33_method_47_69 : decode jdk_33_method_47_code 69 = .ok (.iload_n 0, 1) := by decide +kernel
theorem d_jdk_33_method_47_70 : decode jdk_33_method_47_code 70 = .ok (.iconst 2, 1) := by decide +kernel
theorem d_jdk_33_method_47_71 : decode jdk_33_method_47_code 71 = .ok (.iushr, 1) := by decide +kernel
theorem d_jdk_33_method_47_72 : decode jdk_33_method_47_code 72 = .ok (.istore_n 0, 1) := by decide +kernel
theorem d_jdk_71_method_1_0 : decode jdk_71_method_1_code 0 = .ok (.aload_n 0, 1) := by decide +kernel
theorem d_jdk_71_method_1_1 : decode jdk_71_method_1_code 1 = .ok (.invokespecial 1, 3) := by decide +kernel
theorem d_jdk_71_method_1_4 : decode jdk_71_method_1_code 4 = .ok (.return_, 1) := by decide +kernel
theorem d_prog_12_method_1_0 : decode prog_12_method_1_code 0 = .ok (.aload_n 0, 1) := by decide +kernel
theorem d_prog_12_method_1_1 : decode prog_12_method_1_code 1 = .ok (.invokespecial 1, 3) := by decide +kernel
theorem d_prog_12_method_1_4 : decode prog_12_method_1_code 4 = .ok (.iload_n 1, 1) := by decide +kernel
theorem d_prog_12_method_1_5 : decode prog_12_method_1_code 5 = .ok (.iconst 1, 1) := by decide +kernel
theorem d_prog_12_method_1_6 : decode prog_12_method_1_code 6 = .ok (.invokestatic 7, 3) := by decide +kernel
theorem pd_11 : parseMethodDescriptor "(II)I" = some ⟨[.int, .int], some .int⟩ := by decide +kernel
theorem d_prog_12_method_1_9 : decode prog_12_method_1_code 9 = .ok (.iconst 2, 1) := by decide +kernel
theorem d_prog_12_method_1_10 : decode prog_12_method_1_code 10 = .ok (.imul, 1) := by decide +kernel
theorem d_prog_12_method_1_11 : decode prog_12_method_1_code 11 = .ok (.invokestatic 13, 3) := by decide +kernel
theorem d_prog_12_method_1_14 : decode prog_12_method_1_code 14 = .ok (.iconst 2, 1) := by decide +kernel
theorem d_prog_12_method_1_15 : decode prog_12_method_1_code 15 = .ok (.imul, 1) := by decide +kernel
theorem d_prog_12_method_1_16 : decode prog_12_method_1_code 16 = .ok (.istore_n 2, 1) := by decide +kernel
theorem d_prog_12_method_1_17 : decode prog_12_method_1_code 17 = .ok (.aload_n 0, 1) := by decide +kernel
theorem d_prog_12_method_1_18 : decode prog_12_method_1_code 18 = .ok (.iload_n 2, 1) := by decide +kernel
theorem d_prog_12_method_1_19 : decode prog_12_method_1_code 19 = .ok (.anewarray 19, 3) := by decide +kernel
theorem d_prog_12_method_1_22 : decode prog_12_method_1_code 22 = .ok (.putfield 21, 3) := by decide +kernel
theorem d_prog_12_method_1_25 : decode prog_12_method_1_code 25 = .ok (.aload_n 0, 1) := by decide +kernel
theorem d_prog_12_method_1_26 : decode prog_12_method_1_code 26 = .ok (.iload_n 2, 1) := by decide +kernel
theorem d_prog_12_method_1_27 : decode prog_12_method_1_code 27 = .ok (.anewarray 27, 3) := by decide +kernel
theorem d_prog_12_method_1_30 : decode prog_12_method_1_code 30 = .ok (.putfield 29, 3) := by decide +kernel
theorem d_prog_12_method_1_33 : decode prog_12_method_1_code 33 = .ok (.aload_n 0, 1) := by decide +kernel
theorem d_prog_12_method_1_34 : decode prog_12_method_1_code 34 = .ok (.iload_n 2, 1) := by decide +kernel
theorem d_prog_12_method_1_35 : decode prog_12_method_1_code 35 = .ok (.iconst 2, 1) := by decide +kernel
theorem d_prog_12_method_1_36 : decode prog_12_method_1_code 36 = .ok (.idiv, 1) := by decide +kernel
theorem d_prog_12_method_1_37 : decode prog_12_method_1_code 37 = .ok (.newarray .int, 2) := by decide +kernel
theorem d_prog_12_method_1_39 : decode prog_12_method_1_code 39 = .ok (.putfield 33, 3) := by decide +kernel
theorem d_prog_12_method_1_42 : decode prog_12_method_1_code 42 = .ok (.return_, 1) := by decide +kernel
theorem d_jdk_52_method_21_0 : decode jdk_52_method_21_code 0 = .ok (.iconst 0, 1) := by decide +kernel
theorem d_jdk_52_method_21_1 : decode jdk_52_method_21_code 1 = .ok (.istore 5, 2) := by decide +kernel
theorem d_jdk_52_method_21_3 : decode jdk_52_method_21_code 3 = .ok (.iload 5, 2) := by decide +kernel
theorem d_jdk_52_method_21_5 : decode jdk_52_method_21_code 5 = .ok (.iload 4, 2) := by decide +kernel
theorem d_jdk_52_method_21_7 : decode jdk_52_method_21_code 7 = .ok (.if_icmp .ge 37, 3) := by decide +kernel
theorem d_jdk_52_method_21_10 : decode jdk_52_method_21_code 10 = .ok (.aload_n 0, 1) := by decide +kernel
theorem d_jdk_52_method_21_11 : decode jdk_52_method_21_code 11 = .ok (.iload_n 1, 1) := by decide +kernel
theorem d_jdk_52_method_21_12 : decode jdk_52_method_21_code 12 = .ok (.caload, 1) := by decide +kernel
theorem d_jdk_52_method_21_13 : decode jdk_52_method_21_code 13 = .ok (.istore 6, 2) := by decide +kernel
theorem d_jdk_52_method_21_15 : decode jdk_52_method_21_code 15 = .ok (.iload 6, 2) := by decide +kernel
theorem d_jdk_52_method_21_17 : decode jdk_52_method_21_code 17 = .ok (.sipush 255, 3) := by decide +kernel
theorem d_jdk_52_method_21_20 : decode jdk_52_method_21_code 20 = .ok (.if_icmp .le 6, 3) := by decide +kernel
theorem d_jdk_52_method_21_26 : decode jdk_52_method_21_code 26 = .ok (.aload_n 2, 1) := by decide +kernel
theorem d_jdk_52_method_21_27 : decode jdk_52_method_21_code 27 = .ok (.iload_n 3, 1) := by decide +kernel
theorem d_jdk_52_method_21_28 : decode jdk_52_method_21_code 28 = .ok (.iload 6, 2) := by decide +kernel
theorem d_jdk_52_method_21_30 : decode jdk_52_method_21_code 30 = .ok (.i2b, 1) := by decide +kernel
theorem d_jdk_52_method_21_31 : decode jdk_52_method_21_code 31 = .ok (.bastore, 1) := by decide +kernel
theorem d_jdk_52_method_21_32 : decode jdk_52_method_21_code 32 = .ok (.iinc 1 1, 3) := by decide +kernel
theorem d_jdk_52_method_21_35 : decode jdk_52_method_21_code 35 = .ok (.iinc 3 1, 3) := by decide +kernel
theorem d_jdk_52_method_21_38 : decode jdk_52_method_21_code 38 = .ok (.iinc 5 1, 3) := by decide +kernel
theorem d_jdk_52_method_21_41 : decode jdk_52_method_21_code 41 = .ok (.goto (-38), 3) := by decide +kernel
theorem d_jdk_52_method_21_44 : decode jdk_52_method_21_code 44 = .ok (.iload 4, 2) := by decide +kernel
theorem d_jdk_52_method_21_46 : decode jdk_52_method_21_code 46 = .ok (.ireturn, 1) := by decide +kernel
theorem d_jdk_52_method_16_0 : decode jdk_52_method_16_code 0 = .ok (.iload_n 2, 1) := by decide +kernel
theorem d_jdk_52_method_16_1 : decode jdk_52_method_16_code 1 = .ok (.newarray .byte, 2) := by decide +kernel
theorem d_jdk_52_method_16_3 : decode jdk_52_method_16_code 3 = .ok (.astore_n 3, 1) := by decide +kernel
theorem d_jdk_52_method_16_4 : decode jdk_52_method_16_code 4 = .ok (.aload_n 0, 1) := by decide +kernel
theorem d_jdk_52_method_16_5 : decode jdk_52_method_16_code 5 = .ok (.iload_n 1, 1) := by decide +kernel
theorem d_jdk_52_method_16_6 : decode jdk_52_method_16_code 6 = .ok (.aload_n 3, 1) := by decide +kernel
theorem d_jdk_52_method_16_7 : decode jdk_52_method_16_code 7 = .ok (.iconst 0, 1) := by decide +kernel
theorem d_jdk_52_method_16_8 : decode jdk_52_method_16_code 8 = .ok (.iload_n 2, 1) := by decide +kernel
theorem d_jdk_52_method_16_9 : decode jdk_52_method_16_code 9 = .ok (.invokestatic 115, 3) := by decide +kernel
theorem pd_12 : parseMethodDescriptor "([CI[BII)I" = some ⟨[(.array .char), .int, (.array .byte), .int, .int], some .int⟩ := by decide +kernel
theorem d_jdk_52_method_16_12 : decode jdk_52_method_16_code 12 = .ok (.istore 4, 2) := by decide +kernel
theorem d_jdk_52_method_16_14 : decode jdk_52_method_16_code 14 = .ok (.iload 4, 2) := by decide +kernel
theorem d_jdk_52_method_16_16 : decode jdk_52_method_16_code 16 = .ok (.iload_n 2, 1) := by decide +kernel
theorem d_jdk_52_method_16_17 : decode jdk_52_method_16_code 17 = .ok (.if_icmp .eq 40, 3) := by decide +kernel
theorem d_jdk_52_method_16_57 : decode jdk_52_method_16_code 57 = .ok (.aload_n 3, 1) := by decide +kernel
theorem d_jdk_52_method_16_58 : decode jdk_52_method_16_code 58 = .ok (.areturn, 1) := by decide +kernel
theorem d_jdk_52_method_15_0 : decode jdk_52_method_15_code 0 = .ok (.iload_n 1, 1) := by decide +kernel
theorem d_jdk_52_method_15_1 : decode jdk_52_method_15_code 1 = .ok (.aload_n 0, 1) := by decide +kernel
theorem d_jdk_52_method_15_2 : decode jdk_52_method_15_code 2 = .ok (.arraylength, 1) := by decide +kernel
theorem d_jdk_52_method_15_3 : decode jdk_52_method_15_code 3 = .ok (.isub, 1) := by decide +kernel
theorem d_jdk_52_method_15_4 : decode jdk_52_method_15_code 4 = .ok (.bipush 31, 2) := by decide +kernel
theorem d_jdk_52_method_15_6 : decode jdk_52_method_15_code 6 = .ok (.iushr, 1) := by decide +kernel
theorem d_jdk_52_method_15_7 : decode jdk_52_method_15_code 7 = .ok (.i2b, 1) := by decide +kernel
theorem d_jdk_52_method_15_8 : decode jdk_52_method_15_code 8 = .ok (.ireturn, 1) := by decide +kernel
theorem d_jdk_42_method_149_0 : decode jdk_42_method_149_code 0 = .ok (.aload_n 0, 1) := by decide +kernel
theorem d_jdk_42_method_149_1 : decode jdk_42_method_149_code 1 = .ok (.invokespecial 1, 3) := by decide +kernel
theorem d_jdk_42_method_149_4 : decode jdk_42_method_149_code 4 = .ok (.iload_n 3, 1) := by decide +kernel
theorem d_jdk_42_method_149_5 : decode jdk_42_method_149_code 5 = .ok (.ifCond .ne 22, 3) := by decide +kernel
theorem d_jdk_42_method_149_27 : decode jdk_42_method_149_code 27 = .ok (.getstatic 38, 3) := by decide +kernel
theorem d_jdk_42_method_149_30 : decode jdk_42_method_149_code 30 = .ok (.ifCond .eq 28, 3) := by decide +kernel
theorem d_jdk_42_method_149_33 : decode jdk_42_method_149_code 33 = .ok (.aload_n 1, 1) := by decide +kernel
theorem d_jdk_42_method_149_34 : decode jdk_42_method_149_code 34 = .ok (.iload_n 2, 1) := by decide +kernel
theorem d_jdk_42_method_149_35 : decode jdk_42_method_149_code 35 = .ok (.iload_n 3, 1) := by decide +kernel
theorem d_jdk_42_method_149_36 : decode jdk_42_method_149_code 36 = .ok (.invokestatic 177, 3) := by decide +kernel
theorem pd_13 : parseMethodDescriptor "([CII)[B" = some ⟨[(.array .char), .int, .int], some (.array .byte)⟩ := by decide +kernel
theorem d_jdk_42_method_149_39 : decode jdk_42_method_149_code 39 = .ok (.astore 5, 2) := by decide +kernel
theorem d_jdk_42_method_149_41 : decode jdk_42_method_149_code 41 = .ok (.aload_n 0, 1) := by decide +kernel
theorem d_jdk_42_method_149_42 : decode jdk_42_method_149_code 42 = .ok (.aload 5, 2) := by decide +kernel
theorem d_jdk_42_method_149_44 : decode jdk_42_method_149_code 44 = .ok (.iload_n 3, 1) := by decide +kernel
theorem d_jdk_42_method_149_45 : decode jdk_42_method_149_code 45 = .ok (.invokestatic 47, 3) := by decide +kernel
theorem pd_14 : parseMethodDescriptor "([BI)B" = some ⟨[(.array .byte), .int], some .byte⟩ := by decide +kernel
theorem d_jdk_42_method_149_48 : decode jdk_42_method_149_code 48 = .ok (.putfield 15, 3) := by decide +kernel
theorem d_jdk_42_method_149_51 : decode jdk_42_method_149_code 51 = .ok (.aload_n 0, 1) := by decide +kernel
theorem d_jdk_42_method_149_52 : decode jdk_42_method_149_code 52 = .ok (.aload 5, 2) := by decide +kernel
theorem d_jdk_42_method_149_54 : decode jdk_42_method_149_code 54 = .ok (.putfield 9, 3) := by decide +kernel
theorem d_jdk_42_method_149_57 : decode jdk_42_method_149_code 57 = .ok (.return_, 1) := by decide +kernel
theorem d_jdk_42_method_3_0 : decode jdk_42_method_3_code 0 = .ok (.aload_n 0, 1) := by decide +kernel
theorem d_jdk_42_method_3_1 : decode jdk_42_method_3_code 1 = .ok (.aload_n 1, 1) := by decide +kernel
theorem d_jdk_42_method_3_2 : decode jdk_42_method_3_code 2 = .ok (.iconst 0, 1) := by decide +kernel
theorem d_jdk_42_method_3_3 : decode jdk_42_method_3_code 3 = .ok (.aload_n 1, 1) := by decide +kernel
theorem d_jdk_42_method_3_4 : decode jdk_42_method_3_code 4 = .ok (.arraylength, 1) := by decide +kernel
theorem d_jdk_42_method_3_5 : decode jdk_42_method_3_code 5 = .ok (.aconst_null, 1) := by decide +kernel
theorem d_jdk_42_method_3_6 : decode jdk_42_method_3_code 6 = .ok (.invokespecial 27, 3) := by decide +kernel
theorem pd_15 : parseMethodDescriptor "([CIILjava/lang/Void;)V" = some ⟨[(.array .char), .int, .int, (.object "java/lang/Void")], none⟩ := by decide +kernel
theorem d_jdk_42_method_3_9 : decode jdk_42_method_3_code 9 = .ok (.return_, 1) := by decide +kernel
theorem d_method_2_0 : decode method_2_code 0 = .ok (.iconst 1, 1) := by decide +kernel
theorem d_method_2_1 : decode method_2_code 1 = .ok (.newarray .char, 2) := by decide +kernel
theorem d_method_2_3 : decode method_2_code 3 = .ok (.astore_n 1, 1) := by decide +kernel
theorem d_method_2_4 : decode method_2_code 4 = .ok (.aload_n 1, 1) := by decide +kernel
theorem d_method_2_5 : decode method_2_code 5 = .ok (.iconst 0, 1) := by decide +kernel
theorem d_method_2_6 : decode method_2_code 6 = .ok (.iload_n 0, 1) := by decide +kernel
theorem d_method_2_7 : decode method_2_code 7 = .ok (.castore, 1) := by decide +kernel
theorem d_method_2_8 : decode method_2_code 8 = .ok (.new 7, 3) := by decide +kernel
theorem d_method_2_11 : decode method_2_code 11 = .ok (.dup, 1) := by decide +kernel
theorem d_method_2_12 : decode method_2_code 12 = .ok (.aload_n 1, 1) := by decide +kernel
theorem d_method_2_13 : decode method_2_code 13 = .ok (.invokespecial 9, 3) := by decide +kernel
theorem pd_16 : parseMethodDescriptor "([C)V" = some ⟨[(.array .char)], none⟩ := by decide +kernel
theorem d_method_2_16 : decode method_2_code 16 = .ok (.areturn, 1) := by decide +kernel
theorem d_prog_12_method_8_0 : decode prog_12_method_8_code 0 = .ok (.aload_n 0, 1) := by decide +kernel
theorem d_prog_12_method_8_1 : decode prog_12_method_8_code 1 = .ok (.getfield 21, 3) := by decide +kernel
theorem d_prog_12_method_8_4 : decode prog_12_method_8_code 4 = .ok (.aload_n 0, 1) := by decide +kernel
theorem d_prog_12_method_8_5 : decode prog_12_method_8_code 5 = .ok (.getfield 33, 3) := by decide +kernel
theorem d_prog_12_method_8_8 : decode prog_12_method_8_code 8 = .ok (.iload_n 1, 1) := by decide +kernel
theorem d_prog_12_method_8_9 : decode prog_12_method_8_code 9 = .ok (.iaload, 1) := by decide +kernel
theorem d_prog_12_method_8_10 : decode prog_12_method_8_code 10 = .ok (.aaload, 1) := by decide +kernel
theorem d_prog_12_method_8_11 : decode prog_12_method_8_code 11 = .ok (.areturn, 1) := by decide +kernel
theorem d_method_3_0 : decode method_3_code 0 = .ok (.iload_n 1, 1) := by decide +kernel
theorem d_method_3_1 : decode method_3_code 1 = .ok (.iload_n 2, 1) := by decide +kernel
theorem d_method_3_2 : decode method_3_code 2 = .ok (.if_icmp .lt 5, 3) := by decide +kernel
theorem d_method_3_7 : decode method_3_code 7 = .ok (.aload_n 0, 1) := by decide +kernel
theorem d_method_3_8 : decode method_3_code 8 = .ok (.iload_n 1, 1) := by decide +kernel
theorem d_method_3_9 : decode method_3_code 9 = .ok (.invokevirtual 12, 3) := by decide +kernel
theorem pd_17 : parseMethodDescriptor "(I)Ljava/lang/String;" = some ⟨[.int], some (.object "java/lang/String")⟩ := by decide +kernel
theorem d_method_3_12 : decode method_3_code 12 = .ok (.astore 4, 2) := by decide +kernel
theorem d_method_3_14 : decode method_3_code 14 = .ok (.aload 4, 2) := by decide +kernel
theorem d_method_3_16 : decode method_3_code 16 = .ok (.ifnull 21, 3) := by decide +kernel
theorem d_method_3_19 : decode method_3_code 19 = .ok (.aload 4, 2) := by decide +kernel
theorem d_method_3_21 : decode method_3_code 21 = .ok (.aload_n 3, 1) := by decide +kernel
theorem d_method_3_22 : decode method_3_code 22 = .ok (.iload_n 1, 1) := by decide +kernel
theorem d_method_3_23 : decode method_3_code 23 = .ok (.caload, 1) := by decide +kernel
theorem d_method_3_24 : decode method_3_code 24 = .ok (.invokestatic 18, 3) := by decide +kernel
theorem pd_18 : parseMethodDescriptor "(C)Ljava/lang/String;" = some ⟨[.char], some (.object "java/lang/String")⟩ := by decide +kernel
theorem d_method_3_27 : decode method_3_code 27 = .ok (.invokevirtual 22, 3) := by decide +kernel
theorem d_method_3_30 : decode method_3_code 30 = .ok (.ifCond .eq 7, 3) := by decide +kernel
theorem d_method_3_33 : decode method_3_code 33 = .ok (.iconst 1, 1) := by decide +kernel
theorem d_method_3_34 : decode method_3_code 34 = .ok (.goto 4, 3) := by decide +kernel
theorem d_method_3_38 : decode method_3_code 38 = .ok (.ireturn, 1) := by decide +kernel
theorem d_method_3_5 : decode method_3_code 5 = .ok (.iconst 1, 1) := by decide +kernel
theorem d_method_3_6 : decode method_3_code 6 = .ok (.ireturn, 1) := by decide +kernel
theorem pd_19 : parseMethodDescriptor "(I)V" = some ⟨[.int], none⟩ := by decide +kernel
theorem pd_20 : parseMethodDescriptor "(I)Ljava/lang/Integer;" = some ⟨[.int], some (.object "java/lang/Integer")⟩ := by decide +kernel
theorem pd_21 : parseMethodDescriptor "(Lcom/example/vestwright/vestwright/NamedValues;II[C)Z" = some ⟨[(.object "com/example/vestwright/vestwright/NamedValues"), .int, .int, (.array .char)], some .boolean⟩ := by decide +kernel
abbrev o_Str (f0 f1 f2 f3 : Value) : Own.Pc := .inl ("java/lang/String", [("java/lang/String", "value", "[B", f0), ("java/lang/String", "coder", "B", f1), ("java/lang/String", "hash", "I", f2), ("java/lang/String", "hashIsZero", "Z", f3)])
theorem nw_Str {Z : State} {a0 : Array Value} (tb : Own.Tb Z a0 tables_1) : Own.Nw Z a0 "java/lang/String" [("java/lang/String", "value", "[B", .null), ("java/lang/String", "coder", "B", (.int (0 : Int32))), ("java/lang/String", "hash", "I", (.int (0 : Int32))), ("java/lang/String", "hashIsZero", "Z", (.int (0 : Int32)))] := (Own.Nw.cons (Or.inr (tb _ (List.mem_of_getElem? (i := 33) rfl))) (ty := (.array .byte)) (by decide) rfl (Own.Nw.cons (Or.inr (tb _ (List.mem_of_getElem? (i := 31) rfl))) (ty := .byte) (by decide) rfl (Own.Nw.cons (Or.inl (tb _ (List.mem_of_getElem? (i := 87) rfl))) (ty := .int) (by decide) rfl (Own.Nw.cons (Or.inl (tb _ (List.mem_of_getElem? (i := 89) rfl))) (ty := .boolean) (by decide) rfl Own.Nw.nil))))
abbrev o_Int : Own.Pc := .inl ("java/lang/Integer", [])
theorem nw_Int {Z : State} {a0 : Array Value} (tb : Own.Tb Z a0 tables_1) : Own.Nw Z a0 "java/lang/Integer" [] := Own.Nw.nil
abbrev o_NV (f0 f1 f2 f3 : Value) : Own.Pc := .inl ("com/example/vestwright/vestwright/NamedValues", [("com/example/vestwright/vestwright/NamedValues", "names", "[Ljava/lang/String;", f0), ("com/example/vestwright/vestwright/NamedValues", "held", "[Ljava/lang/Object;", f1), ("com/example/vestwright/vestwright/NamedValues", "order", "[I", f2), ("com/example/vestwright/vestwright/NamedValues", "size", "I", f3)])
theorem nw_NV {Z : State} {a0 : Array Value} (tb : Own.Tb Z a0 tables_1) : Own.Nw Z a0 "com/example/vestwright/vestwright/NamedValues" [("com/example/vestwright/vestwright/NamedValues", "names", "[Ljava/lang/String;", .null), ("com/example/vestwright/vestwright/NamedValues", "held", "[Ljava/lang/Object;", .null), ("com/example/vestwright/vestwright/NamedValues", "order", "[I", .null), ("com/example/vestwright/vestwright/NamedValues", "size", "I", (.int (0 : Int32)))] := (Own.Nw.cons (Or.inl (tb _ (List.mem_of_getElem? (i := 62) rfl))) (ty := (.array (.object "java/lang/String"))) (by decide) rfl (Own.Nw.cons (Or.inl (tb _ (List.mem_of_getElem? (i := 66) rfl))) (ty := (.array (.object "java/lang/Object"))) (by decide) rfl (Own.Nw.cons (Or.inl (tb _ (List.mem_of_getElem? (i := 69) rfl))) (ty := (.array .int)) (by decide) rfl (Own.Nw.cons (Or.inl (tb _ (List.mem_of_getElem? (i := 101) rfl))) (ty := .int) (by decide) rfl Own.Nw.nil))))
set_option maxRecDepth 65536 in
set_option maxHeartbeats 4000000 in
theorem c_can (l : Launch) {Z : State} {a0 : Array Value} (tb : Own.Tb Z a0 tables_1) (p : Int32) (h : Heap) (hp : ¬ ((255 : Int32) < p)) :
    Own.Con l Z (⟨"java/lang/StringLatin1", "canEncode", "(C)Z"⟩ : MethodName) jdk_43_method_3_code 1 (some .boolean) ({ frames := 0, cells := 0, slots := 0, locals := 0 } : Room) #[(.int p)] h (fun rr h' => rr = some (.int (1 : Int32)) ∧ h = h') := by
  refine Own.Con.of (plainFor_of_name (by first | (simp [plainName, overriddenIn]; done) | decide +kernel)) #[.val (.int p)] (fun m => by first | rfl | (simp [entryFrame, mkF, argsToLocals, Value.category, maxLocals]; done)) (fun K ok => ?_)
  refine Own.W.iloadN ok d_jdk_43_method_3_0 1 rfl ?_
  refine Own.W.sipush ok d_jdk_43_method_3_1 4 (255 : Int32) rfl ?_
  refine Own.W.icmpF ok d_jdk_43_method_3_4 7 hp ?_
  refine Own.W.iconst ok d_jdk_43_method_3_7 8 (1 : Int32) rfl ?_
  refine Own.W.goto ok d_jdk_43_method_3_8 12 ?_
  exact Own.W.iret ok d_jdk_43_method_3_12 rfl ⟨rfl, rfl⟩
set_option maxRecDepth 65536 in
set_option maxHeartbeats 4000000 in
theorem c_toB (l : Launch) {Z : State} {a0 : Array Value} (tb : Own.Tb Z a0 tables_1) (p : Int32) (h : Heap) (cs : List (Addr × Own.Pc)) (H : Own.HS Z h (cs)) :
    Own.Con l Z (⟨"java/lang/StringLatin1", "toBytes", "(C)[B"⟩ : MethodName) jdk_43_method_46_code 1 (some (.array .byte)) ({ frames := 0, cells := 1, slots := 1, locals := 0 } : Room) #[(.int p)] h (fun rr h' => ∃ (b : Addr) (kb : ClassId), rr = some (.ref b) ∧ Own.HS Z h' ((b, .inr (.byte, kb, [(.int (Own.by8 p))])) :: cs)) := by
  refine Own.Con.of (plainFor_of_name (by first | (simp [plainName, overriddenIn]; done) | decide +kernel)) #[.val (.int p)] (fun m => by first | rfl | (simp [entryFrame, mkF, argsToLocals, Value.category, maxLocals]; done)) (fun K ok => ?_)
  refine Own.W.iconst ok d_jdk_43_method_46_0 1 (1 : Int32) rfl ?_
  refine Own.W.newP ok tb H 23 rfl d_jdk_43_method_46_1 1 [(.int (0 : Int32))] rfl 1 1 3 (by decide) (by decide) (fun a1 k2 h3 H4 => ?_)
  show Own.W l Z _ K _ h3 1 1 3 #[.val (.int p)] [(.ref a1)]
  refine Own.W.dup ok d_jdk_43_method_46_3 4 rfl ?_
  refine Own.W.iconst ok d_jdk_43_method_46_4 5 (0 : Int32) rfl ?_
  refine Own.W.iloadN ok d_jdk_43_method_46_5 6 rfl ?_
  refine Own.W.i2b ok d_jdk_43_method_46_6 7 ?_
  refine Own.W.bast ok H4 (i := 0) rfl (by decide) (Nat.le_of_ble_eq_true rfl) (Own.by8 p) rfl d_jdk_43_method_46_7 8 ((a1, .inr (.byte, k2, [(.int (Own.by8 p))])) :: cs) rfl (fun h5 H6 => ?_)
  exact Own.W.aret ok d_jdk_43_method_46_8 ⟨a1, k2, rfl, H6⟩
set_option maxRecDepth 65536 in
set_option maxHeartbeats 4000000 in
theorem c_sini (l : Launch) {Z : State} {a0 : Array Value} (tb : Own.Tb Z a0 tables_1) (a : Addr) (v : Addr) (h : Heap) (cs : List (Addr × Own.Pc)) (H : Own.HS Z h ((a, o_Str .null (.int (0 : Int32)) (.int (0 : Int32)) (.int (0 : Int32))) :: cs)) :
    Own.Con l Z (⟨"java/lang/String", "<init>", "([BB)V"⟩ : MethodName) jdk_42_method_151_code 3 none ({ frames := 1, cells := 0, slots := 0, locals := 12 } : Room) #[(.ref a), (.ref v), (.int (0 : Int32))] h (fun rr h' => rr = none ∧ Own.HS Z h' ((a, o_Str (.ref v) (.int (0 : Int32)) (.int (0 : Int32)) (.int (0 : Int32))) :: cs)) := by
  refine Own.Con.of (plainFor_of_name (by first | (simp [plainName, overriddenIn]; done) | decide +kernel)) #[.val (.ref a), .val (.ref v), .val (.int (0 : Int32))] (fun m => by first | rfl | (simp [entryFrame, mkF, argsToLocals, Value.category, maxLocals]; done)) (fun K ok => ?_)
  refine Own.W.aloadN ok d_jdk_42_method_151_0 1 rfl rfl ?_
  refine Own.W.initO ok tb 15 16 17 rfl rfl rfl d_jdk_42_method_151_1 0 4 ?_
  refine Own.W.aloadN ok d_jdk_42_method_151_4 5 rfl rfl ?_
  refine Own.W.aloadN ok d_jdk_42_method_151_5 6 rfl rfl ?_
  refine Own.W.putF ok tb H (i := 0) (j := 0) (ty := (.array .byte)) (w' := (.ref v)) rfl rfl 32 6 rfl rfl Via.refl (Or.inr ⟨(tb _ (List.mem_of_getElem? (i := 33) rfl)), rfl, rfl⟩) (Own.Lay.of (nw_Str tb) rfl) (by decide) rfl rfl d_jdk_42_method_151_6 9 ((a, o_Str (.ref v) (.int (0 : Int32)) (.int (0 : Int32)) (.int (0 : Int32))) :: cs) rfl (fun h1 H2 => ?_)
  refine Own.W.aloadN ok d_jdk_42_method_151_9 10 rfl rfl ?_
  refine Own.W.iloadN ok d_jdk_42_method_151_10 11 rfl ?_
  refine Own.W.putF ok tb H2 (i := 0) (j := 1) (ty := .byte) (w' := (.int (0 : Int32))) rfl rfl 30 6 rfl rfl Via.refl (Or.inr ⟨(tb _ (List.mem_of_getElem? (i := 31) rfl)), rfl, rfl⟩) (Own.Lay.of (nw_Str tb) rfl) (by decide) rfl rfl d_jdk_42_method_151_11 14 ((a, o_Str (.ref v) (.int (0 : Int32)) (.int (0 : Int32)) (.int (0 : Int32))) :: cs) rfl (fun h3 H4 => ?_)
  exact Own.W.vret ok d_jdk_42_method_151_14 ⟨rfl, H4⟩
set_option maxRecDepth 65536 in
set_option maxHeartbeats 4000000 in
theorem c_vo (l : Launch) {Z : State} {a0 : Array Value} (tb : Own.Tb Z a0 tables_1) (c0 : Int32) (p : Int32) (h : Heap) (cs : List (Addr × Own.Pc)) (H : Own.HS Z h (cs)) (SC : Sta Z Z.heap "java/lang/String" "COMPACT_STRINGS" "Z" (.int c0)) (hc0 : ¬ (c0 = (0 : Int32))) (hp : ¬ ((255 : Int32) < p)) :
    Own.Con l Z (⟨"java/lang/String", "valueOf", "(C)Ljava/lang/String;"⟩ : MethodName) jdk_42_method_139_code 1 (some (.object "java/lang/String")) ({ frames := 2, cells := 2, slots := 5, locals := 48 } : Room) #[(.int p)] h (fun rr h' => ∃ (s : Addr) (b : Addr) (kb : ClassId), rr = some (.ref s) ∧ Own.HS Z h' ((s, o_Str (.ref b) (.int (0 : Int32)) (.int (0 : Int32)) (.int (0 : Int32))) :: (b, .inr (.byte, kb, [(.int (Own.by8 p))])) :: cs)) := by
  refine Own.Con.of (plainFor_of_name (by first | (simp [plainName, overriddenIn]; done) | decide +kernel)) #[.val (.int p)] (fun m => by first | rfl | (simp [entryFrame, mkF, argsToLocals, Value.category, maxLocals]; done)) (fun K ok => ?_)
  refine Own.W.getS ok tb 18 rfl Via.refl (H.sta SC) d_jdk_42_method_139_0 3 ?_
  refine Own.W.ifF ok d_jdk_42_method_139_3 6 hc0 ?_
  refine Own.W.iloadN ok d_jdk_42_method_139_6 7 rfl ?_
  refine Own.W.callS ok tb (argsL := [(.int p)]) (rest := []) 127 128 97 129 rfl rfl rfl rfl d_jdk_42_method_139_7 pd_0 (c_can l tb p h hp) 0 0 0 10 ?_
  rintro _ _ ⟨rfl, rfl⟩
  show Own.W l Z _ K _ h 0 0 10 #[.val (.int p)] [(.int (1 : Int32))]
  refine Own.W.ifF ok d_jdk_42_method_139_10 13 (by decide : ¬ ((1 : Int32) = (0 : Int32))) ?_
  refine Own.W.new ok tb H 107 6 7 rfl rfl rfl (nw_Str tb) d_jdk_42_method_139_13 1 4 16 (fun a1 h2 H3 => ?_)
  show Own.W l Z _ K _ h2 1 4 16 #[.val (.int p)] [(.ref a1)]
  refine Own.W.dup ok d_jdk_42_method_139_16 17 rfl ?_
  refine Own.W.iloadN ok d_jdk_42_method_139_17 18 rfl ?_
  refine Own.W.callS ok tb (argsL := [(.int p)]) (rest := [(.ref a1), (.ref a1)]) 130 131 97 132 rfl rfl rfl rfl d_jdk_42_method_139_18 pd_1 (c_toB l tb p h2 ((a1, o_Str .null (.int (0 : Int32)) (.int (0 : Int32)) (.int (0 : Int32))) :: cs) H3) 2 2 5 21 ?_
  rintro _ h4 ⟨b6, kb7, rfl, H5⟩
  show Own.W l Z _ K _ h4 2 5 21 #[.val (.int p)] [(.ref b6), (.ref a1), (.ref a1)]
  refine Own.W.iconst ok d_jdk_42_method_139_21 22 (0 : Int32) rfl ?_
  have H8 : Own.HS Z h4 ((a1, o_Str .null (.int (0 : Int32)) (.int (0 : Int32)) (.int (0 : Int32))) :: (b6, .inr (.byte, kb7, [(.int (Own.by8 p))])) :: cs) := H5.pull 1 _ rfl rfl
  refine Own.W.callI ok tb (a := a1) (argsL := [(.ref b6), (.int (0 : Int32))]) (rest := [(.ref a1)]) 133 134 7 135 rfl rfl rfl rfl d_jdk_42_method_139_22 pd_2 (c_sini l tb a1 b6 h4 ((b6, .inr (.byte, kb7, [(.int (Own.by8 p))])) :: cs) H8) 1 2 5 25 ?_
  rintro _ h9 ⟨rfl, H10⟩
  show Own.W l Z _ K _ h9 2 5 25 #[.val (.int p)] [(.ref a1)]
  exact Own.W.aret ok d_jdk_42_method_139_25 ⟨a1, b6, kb7, rfl, H10⟩
set_option maxRecDepth 65536 in
set_option maxHeartbeats 4000000 in
theorem c_lat (l : Launch) {Z : State} {a0 : Array Value} (tb : Own.Tb Z a0 tables_1) (a : Addr) (c0 : Int32) (h : Heap) (HE : Ext Z.heap h) (SC : Sta Z Z.heap "java/lang/String" "COMPACT_STRINGS" "Z" (.int c0)) (hc0 : ¬ (c0 = (0 : Int32))) (F : Fld Z h a "java/lang/String" "coder" "B" (.int 0)) :
    Own.Con l Z (⟨"java/lang/String", "isLatin1", "()Z"⟩ : MethodName) jdk_42_method_154_code 1 (some .boolean) ({ frames := 0, cells := 0, slots := 0, locals := 0 } : Room) #[(.ref a)] h (fun rr h' => rr = some (.int (1 : Int32)) ∧ h = h') := by
  refine Own.Con.of (plainFor_of_name (by first | (simp [plainName, overriddenIn]; done) | decide +kernel)) #[.val (.ref a)] (fun m => by first | rfl | (simp [entryFrame, mkF, argsToLocals, Value.category, maxLocals]; done)) (fun K ok => ?_)
  refine Own.W.getS ok tb 18 rfl Via.refl (SC.ext HE) d_jdk_42_method_154_0 3 ?_
  refine Own.W.ifF ok d_jdk_42_method_154_3 6 hc0 ?_
  refine Own.W.aloadN ok d_jdk_42_method_154_6 7 rfl rfl ?_
  refine Own.W.getF ok tb 30 rfl Via.refl F d_jdk_42_method_154_7 10 ?_
  refine Own.W.ifF ok d_jdk_42_method_154_10 13 (by decide : (0 : Int32) = (0 : Int32)) ?_
  refine Own.W.iconst ok d_jdk_42_method_154_13 14 (1 : Int32) rfl ?_
  refine Own.W.goto ok d_jdk_42_method_154_14 18 ?_
  exact Own.W.iret ok d_jdk_42_method_154_18 rfl ⟨rfl, rfl⟩
set_option maxRecDepth 65536 in
set_option maxHeartbeats 4000000 in
theorem c_lh (l : Launch) {Z : State} {a0 : Array Value} (tb : Own.Tb Z a0 tables_1) (b : Addr) (cl : Cell) (c : Int32) (h : Heap) (AR : RoadKit.Arr Z h b cl .byte) (AE : cl.slots.toList = [.int (Own.by8 c)]) (hr : Own.rng8 c) :
    Own.Con l Z (⟨"java/lang/StringLatin1", "hashCode", "([B)I"⟩ : MethodName) jdk_43_method_21_code 1 (some .int) ({ frames := 0, cells := 0, slots := 0, locals := 0 } : Room) #[(.ref b)] h (fun rr h' => rr = some (.int c) ∧ h = h') := by
  refine Own.Con.of (plainFor_of_name (by first | (simp [plainName, overriddenIn]; done) | decide +kernel)) #[.val (.ref b)] (fun m => by first | rfl | (simp [entryFrame, mkF, argsToLocals, Value.category, maxLocals]; done)) (fun K ok => ?_)
  refine Own.W.aloadN ok d_jdk_43_method_21_0 1 rfl rfl ?_
  refine Own.W.alenA ok AR d_jdk_43_method_21_1 2 (1 : Int32) (Own.one_at AE).2.2 ?_
  refine Own.W.lsw ok d_jdk_43_method_21_2 32 (by decide) (x := 1) (off := 30) (by decide) ?_ (by decide) (by decide)
  refine Own.W.aloadN ok d_jdk_43_method_21_32 33 rfl rfl ?_
  refine Own.W.iconst ok d_jdk_43_method_21_33 34 (0 : Int32) rfl ?_
  refine Own.W.baldA ok AR (Own.one_at AE).1 (Own.one_at AE).2.1 d_jdk_43_method_21_34 35 ?_
  refine Own.W.sipush ok d_jdk_43_method_21_35 38 (255 : Int32) rfl ?_
  refine Own.W.iandV ok d_jdk_43_method_21_38 39 c (Own.by8_and hr) ?_
  refine Own.W.goto ok d_jdk_43_method_21_39 51 ?_
  exact Own.W.iret ok d_jdk_43_method_21_51 rfl ⟨rfl, rfl⟩
set_option maxRecDepth 65536 in
set_option maxHeartbeats 4000000 in
theorem c_hc (l : Launch) {Z : State} {a0 : Array Value} (tb : Own.Tb Z a0 tables_1) (a : Addr) (c0 : Int32) (c : Int32) (fr : List (Addr × Own.Pc)) (tl : List (Addr × Own.Pc)) (h : Heap) (cs : List (Addr × Own.Pc)) (H : Own.HS Z h (cs)) (ecs : cs = fr ++ tl) (SC : Sta Z Z.heap "java/lang/String" "COMPACT_STRINGS" "Z" (.int c0)) (hc0 : ¬ (c0 = (0 : Int32))) (hs : Own.SOK tl a c) :
    Own.Con l Z (⟨"java/lang/String", "hashCode", "()I"⟩ : MethodName) jdk_42_method_78_code 2 (some .int) ({ frames := 1, cells := 0, slots := 0, locals := 20 } : Room) #[(.ref a)] h (fun rr h' => ∃ (tl2 : List (Addr × Own.Pc)), rr = some (.int c) ∧ Own.HS Z h' ((fr ++ tl2)) ∧ Own.Mono Z tl tl2) := by
  refine Own.Con.of (plainFor_of_name (by first | (simp [plainName, overriddenIn]; done) | decide +kernel)) #[.val (.ref a), .unset] (fun m => by first | rfl | (simp [entryFrame, mkF, argsToLocals, Value.category, maxLocals]; done)) (fun K ok => ?_)
  subst ecs
  obtain ⟨b, hv, zv, hm, hk, hr, EX, F1, F2, F3, F4, cl, AR, AE⟩ := Own.SOK.str H (fun q m => List.mem_append_right _ m) hs
  rcases hk with ⟨rfl, rfl⟩ | ⟨rfl, rfl, rfl⟩ | ⟨hk, rfl, rfl⟩
  · refine Own.W.aloadN ok d_jdk_42_method_78_0 1 rfl rfl ?_
    refine Own.W.getF ok tb 86 rfl Via.refl F3 d_jdk_42_method_78_1 4 ?_
    refine Own.W.istoreN ok d_jdk_42_method_78_4 5 #[.val (.ref a), .val (.int (0 : Int32))] rfl ?_
    refine Own.W.iloadN ok d_jdk_42_method_78_5 6 rfl ?_
    refine Own.W.ifF ok d_jdk_42_method_78_6 9 (by decide : (0 : Int32) = (0 : Int32)) ?_
    refine Own.W.aloadN ok d_jdk_42_method_78_9 10 rfl rfl ?_
    refine Own.W.getF ok tb 88 rfl Via.refl F4 d_jdk_42_method_78_10 13 ?_
    refine Own.W.ifF ok d_jdk_42_method_78_13 16 (by decide : (0 : Int32) = (0 : Int32)) ?_
    refine Own.W.aloadN ok d_jdk_42_method_78_16 17 rfl rfl ?_
    refine Own.W.callV ok tb (a := a) (argsL := []) (rest := []) 90 91 93 92 94 7 rfl rfl rfl rfl rfl rfl (notFace_of_selects (args := #[]) (mvT ok.2.1 (tb _ (List.mem_of_getElem? (i := 93) rfl)))) EX d_jdk_42_method_78_17 pd_3 (c_lat l tb a c0 h H.1 SC hc0 F2) 0 0 0 20 ?_
    rintro _ _ ⟨rfl, rfl⟩
    show Own.W l Z _ K _ h 0 0 20 #[.val (.ref a), .val (.int (0 : Int32))] [(.int (1 : Int32))]
    refine Own.W.ifF ok d_jdk_42_method_78_20 23 (by decide : ¬ ((1 : Int32) = (0 : Int32))) ?_
    refine Own.W.aloadN ok d_jdk_42_method_78_23 24 rfl rfl ?_
    refine Own.W.getF ok tb 32 rfl Via.refl F1 d_jdk_42_method_78_24 27 ?_
    refine Own.W.callS ok tb (argsL := [(.ref b)]) (rest := []) 95 96 97 98 rfl rfl rfl rfl d_jdk_42_method_78_27 pd_4 (c_lh l tb b cl c h AR AE hr) 0 0 0 30 ?_
    rintro _ _ ⟨rfl, rfl⟩
    show Own.W l Z _ K _ h 0 0 30 #[.val (.ref a), .val (.int (0 : Int32))] [(.int c)]
    refine Own.W.goto ok d_jdk_42_method_78_30 40 ?_
    refine Own.W.istoreN ok d_jdk_42_method_78_40 41 #[.val (.ref a), .val (.int c)] rfl ?_
    refine Own.W.iloadN ok d_jdk_42_method_78_41 42 rfl ?_
    refine Own.W.iff ok d_jdk_42_method_78_42 53 45 (fun (hc1 : ¬ (c = (0 : Int32))) => ?_) (fun (hc1 : c = (0 : Int32)) => ?_)
    · refine Own.W.aloadN ok d_jdk_42_method_78_53 54 rfl rfl ?_
      refine Own.W.iloadN ok d_jdk_42_method_78_54 55 rfl ?_
      obtain ⟨k, hkk⟩ := List.mem_iff_getElem?.mp hm
      refine Own.W.putF ok tb H (i := fr.length + k) (j := 2) (ty := .int) (w' := (.int c)) (Own.get_app.trans hkk) rfl 86 6 rfl rfl Via.refl (Or.inl (tb _ (List.mem_of_getElem? (i := 87) rfl))) (Own.Lay.of (nw_Str tb) rfl) (by decide) rfl rfl d_jdk_42_method_78_55 58 (fr ++ tl.set k (a, Own.oS b c 0)) Own.set_app (fun h2 H2 => ?_)
      refine Own.W.iloadN ok d_jdk_42_method_78_58 59 rfl ?_
      exact Own.W.iret ok d_jdk_42_method_78_59 rfl ⟨tl.set k (a, Own.oS b c 0), rfl, H2, (Own.Mono.note H hkk (fun c' hc' x => Or.inr (Or.inr ⟨hc1, (Own.SOK.uniq H (fun q m => List.mem_append_right _ m) hs x), rfl⟩)))⟩
    · refine Own.W.aloadN ok d_jdk_42_method_78_45 46 rfl rfl ?_
      refine Own.W.iconst ok d_jdk_42_method_78_46 47 (1 : Int32) rfl ?_
      obtain ⟨k, hkk⟩ := List.mem_iff_getElem?.mp hm
      refine Own.W.putF ok tb H (i := fr.length + k) (j := 3) (ty := .boolean) (w' := (.int (1 : Int32))) (Own.get_app.trans hkk) rfl 88 6 rfl rfl Via.refl (Or.inl (tb _ (List.mem_of_getElem? (i := 89) rfl))) (Own.Lay.of (nw_Str tb) rfl) (by decide) rfl rfl d_jdk_42_method_78_47 50 (fr ++ tl.set k (a, Own.oS b 0 1)) Own.set_app (fun h2 H2 => ?_)
      refine Own.W.goto ok d_jdk_42_method_78_50 58 ?_
      refine Own.W.iloadN ok d_jdk_42_method_78_58 59 rfl ?_
      exact Own.W.iret ok d_jdk_42_method_78_59 rfl ⟨tl.set k (a, Own.oS b 0 1), rfl, H2, (Own.Mono.note H hkk (fun c' hc' x => Or.inr (Or.inl ⟨rfl, rfl, (Own.SOK.uniq H (fun q m => List.mem_append_right _ m) x hs).trans hc1⟩)))⟩
  · refine Own.W.aloadN ok d_jdk_42_method_78_0 1 rfl rfl ?_
    refine Own.W.getF ok tb 86 rfl Via.refl F3 d_jdk_42_method_78_1 4 ?_
    refine Own.W.istoreN ok d_jdk_42_method_78_4 5 #[.val (.ref a), .val (.int (0 : Int32))] rfl ?_
    refine Own.W.iloadN ok d_jdk_42_method_78_5 6 rfl ?_
    refine Own.W.ifF ok d_jdk_42_method_78_6 9 (by decide : (0 : Int32) = (0 : Int32)) ?_
    refine Own.W.aloadN ok d_jdk_42_method_78_9 10 rfl rfl ?_
    refine Own.W.getF ok tb 88 rfl Via.refl F4 d_jdk_42_method_78_10 13 ?_
    refine Own.W.ifT ok d_jdk_42_method_78_13 58 (by decide : ¬ ((1 : Int32) = (0 : Int32))) ?_
    refine Own.W.iloadN ok d_jdk_42_method_78_58 59 rfl ?_
    exact Own.W.iret ok d_jdk_42_method_78_59 rfl ⟨tl, rfl, H, Own.Mono.refl⟩
  · refine Own.W.aloadN ok d_jdk_42_method_78_0 1 rfl rfl ?_
    refine Own.W.getF ok tb 86 rfl Via.refl F3 d_jdk_42_method_78_1 4 ?_
    refine Own.W.istoreN ok d_jdk_42_method_78_4 5 #[.val (.ref a), .val (.int hv)] rfl ?_
    refine Own.W.iloadN ok d_jdk_42_method_78_5 6 rfl ?_
    refine Own.W.ifT ok d_jdk_42_method_78_6 58 hk ?_
    refine Own.W.iloadN ok d_jdk_42_method_78_58 59 rfl ?_
    exact Own.W.iret ok d_jdk_42_method_78_59 rfl ⟨tl, rfl, H, Own.Mono.refl⟩
set_option maxRecDepth 65536 in
set_option maxHeartbeats 4000000 in
theorem c_leq (l : Launch) {Z : State} {a0 : Array Value} (tb : Own.Tb Z a0 tables_1) (b : Addr) (b2 : Addr) (cl : Cell) (cl2 : Cell) (c : Int32) (c2 : Int32) (h : Heap) (AR : RoadKit.Arr Z h b cl .byte) (AE : cl.slots.toList = [.int (Own.by8 c)]) (AR2 : RoadKit.Arr Z h b2 cl2 .byte) (AE2 : cl2.slots.toList = [.int (Own.by8 c2)]) (hr : Own.rng8 c) (hr2 : Own.rng8 c2) :
    Own.Con l Z (⟨"java/lang/StringLatin1", "equals", "([B[B)Z"⟩ : MethodName) jdk_43_method_13_code 3 (some .boolean) ({ frames := 0, cells := 0, slots := 0, locals := 0 } : Room) #[(.ref b), (.ref b2)] h (fun rr h' => rr = some (.int (if c = c2 then 1 else 0)) ∧ h = h') := by
  refine Own.Con.of (plainFor_of_name (by first | (simp [plainName, overriddenIn]; done) | decide +kernel)) #[.val (.ref b), .val (.ref b2), .unset] (fun m => by first | rfl | (simp [entryFrame, mkF, argsToLocals, Value.category, maxLocals]; done)) (fun K ok => ?_)
  refine Own.W.aloadN ok d_jdk_43_method_13_0 1 rfl rfl ?_
  refine Own.W.alenA ok AR d_jdk_43_method_13_1 2 (1 : Int32) (Own.one_at AE).2.2 ?_
  refine Own.W.aloadN ok d_jdk_43_method_13_2 3 rfl rfl ?_
  refine Own.W.alenA ok AR2 d_jdk_43_method_13_3 4 (1 : Int32) (Own.one_at AE2).2.2 ?_
  refine Own.W.icmpF ok d_jdk_43_method_13_4 7 (by decide : (1 : Int32) = (1 : Int32)) ?_
  refine Own.W.iconst ok d_jdk_43_method_13_7 8 (0 : Int32) rfl ?_
  refine Own.W.istoreN ok d_jdk_43_method_13_8 9 #[.val (.ref b), .val (.ref b2), .val (.int (0 : Int32))] rfl ?_
  refine Own.W.iloadN ok d_jdk_43_method_13_9 10 rfl ?_
  refine Own.W.aloadN ok d_jdk_43_method_13_10 11 rfl rfl ?_
  refine Own.W.alenA ok AR d_jdk_43_method_13_11 12 (1 : Int32) (Own.one_at AE).2.2 ?_
  refine Own.W.icmpF ok d_jdk_43_method_13_12 15 (by decide : (0 : Int32) < (1 : Int32)) ?_
  refine Own.W.aloadN ok d_jdk_43_method_13_15 16 rfl rfl ?_
  refine Own.W.iloadN ok d_jdk_43_method_13_16 17 rfl ?_
  refine Own.W.baldA ok AR (Own.one_at AE).1 (Own.one_at AE).2.1 d_jdk_43_method_13_17 18 ?_
  refine Own.W.aloadN ok d_jdk_43_method_13_18 19 rfl rfl ?_
  refine Own.W.iloadN ok d_jdk_43_method_13_19 20 rfl ?_
  refine Own.W.baldA ok AR2 (Own.one_at AE2).1 (Own.one_at AE2).2.1 d_jdk_43_method_13_20 21 ?_
  refine Own.W.icmp ok d_jdk_43_method_13_21 26 24 (fun (hc1 : (Own.by8 c) = (Own.by8 c2)) => ?_) (fun (hc1 : ¬ ((Own.by8 c) = (Own.by8 c2))) => ?_)
  · refine Own.W.iinc ok d_jdk_43_method_13_26 29 (1 : Int32) #[.val (.ref b), .val (.ref b2), .val (.int (1 : Int32))] rfl (by decide) rfl ?_
    refine Own.W.goto ok d_jdk_43_method_13_29 9 ?_
    refine Own.W.iloadN ok d_jdk_43_method_13_9 10 rfl ?_
    refine Own.W.aloadN ok d_jdk_43_method_13_10 11 rfl rfl ?_
    refine Own.W.alenA ok AR d_jdk_43_method_13_11 12 (1 : Int32) (Own.one_at AE).2.2 ?_
    refine Own.W.icmpT ok d_jdk_43_method_13_12 32 (by decide : ¬ ((1 : Int32) < (1 : Int32))) ?_
    refine Own.W.iconst ok d_jdk_43_method_13_32 33 (1 : Int32) rfl ?_
    exact Own.W.iret ok d_jdk_43_method_13_33 rfl ⟨by rw [if_pos (Own.by8_inj hr hr2 hc1)], rfl⟩
  · refine Own.W.iconst ok d_jdk_43_method_13_24 25 (0 : Int32) rfl ?_
    exact Own.W.iret ok d_jdk_43_method_13_25 rfl ⟨by rw [if_neg fun e => hc1 (by rw [e])], rfl⟩
set_option maxRecDepth 65536 in
set_option maxHeartbeats 4000000 in
theorem c_seq (l : Launch) {Z : State} {a0 : Array Value} (tb : Own.Tb Z a0 tables_1) (a : Addr) (a2 : Addr) (c0 : Int32) (c : Int32) (c2 : Int32) (tl : List (Addr × Own.Pc)) (h : Heap) (cs : List (Addr × Own.Pc)) (H : Own.HS Z h (cs)) (hsub : ∀ q ∈ tl, q ∈ cs) (SC : Sta Z Z.heap "java/lang/String" "COMPACT_STRINGS" "Z" (.int c0)) (hc0 : ¬ (c0 = (0 : Int32))) (ne : ¬ (a = a2)) (hs : Own.SOK tl a c) (hs2 : Own.SOK tl a2 c2) :
    Own.Con l Z (⟨"java/lang/String", "equals", "(Ljava/lang/Object;)Z"⟩ : MethodName) jdk_42_method_66_code 3 (some .boolean) ({ frames := 1, cells := 0, slots := 0, locals := 20 } : Room) #[(.ref a), (.ref a2)] h (fun rr h' => rr = some (.int (if c = c2 then 1 else 0)) ∧ h = h') := by
  refine Own.Con.of (plainFor_of_name (by first | (simp [plainName, overriddenIn]; done) | decide +kernel)) #[.val (.ref a), .val (.ref a2), .unset] (fun m => by first | rfl | (simp [entryFrame, mkF, argsToLocals, Value.category, maxLocals]; done)) (fun K ok => ?_)
  obtain ⟨b, hv, zv, hm, hk, hr, EX, F1, F2, F3, F4, cl, AR, AE⟩ := Own.SOK.str H hsub hs
  obtain ⟨b2, hv2, zv2, hm2, hk2, hr2, EX2, F12, F22, F32, F42, cl2, AR2, AE2⟩ := Own.SOK.str H hsub hs2
  refine Own.W.aloadN ok d_jdk_42_method_66_0 1 rfl rfl ?_
  refine Own.W.aloadN ok d_jdk_42_method_66_1 2 rfl rfl ?_
  refine Own.W.acmp ok d_jdk_42_method_66_2 7 false (decide_eq_false fun q => ne (Value.ref.inj q)) ?_
  refine Own.W.aloadN ok d_jdk_42_method_66_7 8 rfl rfl ?_
  refine Own.W.instY ok tb 107 rfl (Ins.self EX2) d_jdk_42_method_66_8 11 ?_
  refine Own.W.ifF ok d_jdk_42_method_66_11 14 (by decide : ¬ ((1 : Int32) = (0 : Int32))) ?_
  refine Own.W.aloadN ok d_jdk_42_method_66_14 15 rfl rfl ?_
  refine Own.W.castY ok tb 107 rfl (Ins.self EX2) d_jdk_42_method_66_15 18 ?_
  refine Own.W.astoreN ok d_jdk_42_method_66_18 19 #[.val (.ref a), .val (.ref a2), .val (.ref a2)] rfl rfl ?_
  refine Own.W.getS ok tb 18 rfl Via.refl (H.sta SC) d_jdk_42_method_66_19 22 ?_
  refine Own.W.ifF ok d_jdk_42_method_66_22 25 hc0 ?_
  refine Own.W.aloadN ok d_jdk_42_method_66_25 26 rfl rfl ?_
  refine Own.W.getF ok tb 30 rfl Via.refl F2 d_jdk_42_method_66_26 29 ?_
  refine Own.W.aloadN ok d_jdk_42_method_66_29 30 rfl rfl ?_
  refine Own.W.getF ok tb 30 rfl Via.refl F22 d_jdk_42_method_66_30 33 ?_
  refine Own.W.icmpF ok d_jdk_42_method_66_33 36 (by decide : (0 : Int32) = (0 : Int32)) ?_
  refine Own.W.aloadN ok d_jdk_42_method_66_36 37 rfl rfl ?_
  refine Own.W.getF ok tb 32 rfl Via.refl F1 d_jdk_42_method_66_37 40 ?_
  refine Own.W.aloadN ok d_jdk_42_method_66_40 41 rfl rfl ?_
  refine Own.W.getF ok tb 32 rfl Via.refl F12 d_jdk_42_method_66_41 44 ?_
  refine Own.W.callS ok tb (argsL := [(.ref b), (.ref b2)]) (rest := []) 108 109 97 110 rfl rfl rfl rfl d_jdk_42_method_66_44 pd_5 (c_leq l tb b b2 cl cl2 c c2 h AR AE AR2 AE2 hr hr2) 0 0 0 47 ?_
  rintro _ _ ⟨rfl, rfl⟩
  show Own.W l Z _ K _ h 0 0 47 #[.val (.ref a), .val (.ref a2), .val (.ref a2)] [(.int (if c = c2 then 1 else 0))]
  refine Own.W.iff ok d_jdk_42_method_66_47 54 50 (fun (hc1 : (if c = c2 then 1 else 0) = (0 : Int32)) => ?_) (fun (hc1 : ¬ ((if c = c2 then 1 else 0) = (0 : Int32))) => ?_)
  · refine Own.W.iconst ok d_jdk_42_method_66_54 55 (0 : Int32) rfl ?_
    exact Own.W.iret ok d_jdk_42_method_66_55 rfl ⟨Own.ite10 hc1, rfl⟩
  · refine Own.W.iconst ok d_jdk_42_method_66_50 51 (1 : Int32) rfl ?_
    refine Own.W.goto ok d_jdk_42_method_66_51 55 ?_
    exact Own.W.iret ok d_jdk_42_method_66_55 rfl ⟨Own.ite11 hc1, rfl⟩
set_option maxRecDepth 65536 in
set_option maxHeartbeats 4000000 in
theorem c_putA (l : Launch) {Z : State} {a0 : Array Value} (tb : Own.Tb Z a0 tables_1) (t : Addr) (na : Addr) (va : Addr) (oa : Addr) (kn : ClassId) (kv : ClassId) (ko : ClassId) (n : Nat) (Kf : Nat → Int32) (Hf : Nat → Bool) (Vf : Nat → Value) (sf : Nat → Addr) (og : Nat → Nat) (es : List (Int32 × Value)) (z : Nat) (a : Addr) (c : Int32) (c0 : Int32) (v : Value) (fr : List (Addr × Own.Pc)) (tl : List (Addr × Own.Pc)) (h : Heap) (cs : List (Addr × Own.Pc)) (H : Own.HS Z h ((t, o_NV (.ref na) (.ref va) (.ref oa) (.int (z.toInt32))) :: (na, .inr ((.object "java/lang/String"), kn, (Own.tN n Hf sf))) :: (va, .inr ((.object "java/lang/Object"), kv, (Own.tab n Vf))) :: (oa, .inr (.int, ko, (Own.tO n og))) :: cs)) (ecs : cs = fr ++ tl) (SC : Sta Z Z.heap "java/lang/String" "COMPACT_STRINGS" "Z" (.int c0)) (hc0 : ¬ (c0 = (0 : Int32))) (TT : Own.TS Z tl n Kf Hf Vf sf og es z kn kv) (hg0 : 2 * (z + 1) < n) (hs : Own.SOK tl a c) (hv : Own.VOK Z tl v) :
    Own.Con l Z (⟨"com/example/vestwright/vestwright/NamedValues", "put", "(Ljava/lang/String;Ljava/lang/Object;)Ljava/lang/Object;"⟩ : MethodName) prog_12_method_5_code 6 (some (.object "java/lang/Object")) ({ frames := 2, cells := 0, slots := 0, locals := 44 } : Room) #[(.ref t), (.ref a), v] h (fun rr h' => ∃ (u : Value) (na2 : Addr) (va2 : Addr) (oa2 : Addr) (kn2 : ClassId) (kv2 : ClassId) (ko2 : ClassId) (K2 : Nat → Int32) (H2 : Nat → Bool) (V2 : Nat → Value) (s2 : Nat → Addr) (o2 : Nat → Nat) (z2 : Nat) (tl2 : List (Addr × Own.Pc)), rr = some u ∧ Own.HS Z h' ((t, o_NV (.ref na2) (.ref va2) (.ref oa2) (.int (z2.toInt32))) :: (na2, .inr ((.object "java/lang/String"), kn2, (Own.tN n H2 s2))) :: (va2, .inr ((.object "java/lang/Object"), kv2, (Own.tab n V2))) :: (oa2, .inr (.int, ko2, (Own.tO n o2))) :: (fr ++ tl2)) ∧ u.isRef = true ∧ Own.TS Z tl2 n K2 H2 V2 s2 o2 (Own.updL es c v) z2 kn2 kv2 ∧ Own.Mono Z tl tl2 ∧ z2 ≤ z + 1) := by
  refine Own.Con.of (plainFor_of_name (by first | (simp [plainName, overriddenIn]; done) | decide +kernel)) #[.val (.ref t), .val (.ref a), .val v, .unset, .unset, .unset] (fun m => by rcases ref_cases hv.ref with e | ⟨_, e⟩ <;> rw [e] <;> first | rfl | (simp [entryFrame, mkF, argsToLocals, Value.category, maxLocals]; done)) (fun K ok => ?_)
  subst ecs
  obtain ⟨T, ez, hz, hV, hS, On, Ov⟩ := TT
  have hn := T.1
  obtain ⟨D, F⟩ := T.fst_ex (by omega) c
  refine Own.W.aloadN ok d_prog_12_method_5_0 1 rfl rfl ?_
  refine Own.W.getF ok tb 61 rfl Via.refl (H.fld (i := 0) (j := 0) rfl rfl) d_prog_12_method_5_1 4 ?_
  refine Own.W.alen ok H (i := 1) rfl d_prog_12_method_5_4 5 (n.toInt32) Own.lenN ?_
  refine Own.W.iconst ok d_prog_12_method_5_5 6 (1 : Int32) rfl ?_
  refine Own.W.isubV ok d_prog_12_method_5_6 7 (Own.mk n) rfl ?_
  refine Own.W.istoreN ok d_prog_12_method_5_7 8 #[.val (.ref t), .val (.ref a), .val v, .val (.int (Own.mk n)), .unset, .unset] rfl ?_
  refine Own.W.aloadN ok d_prog_12_method_5_8 9 rfl rfl ?_
  have exs := Own.SOK.exa H Own.mem4 hs
  refine Own.W.callV ok tb (a := a) (argsL := []) (rest := []) 81 82 84 83 85 7 rfl rfl rfl rfl rfl rfl (notFace_of_selects (args := #[]) (mvT ok.2.1 (tb _ (List.mem_of_getElem? (i := 84) rfl)))) exs d_prog_12_method_5_9 pd_6 (c_hc l tb a c0 c ((t, o_NV (.ref na) (.ref va) (.ref oa) (.int (z.toInt32))) :: (na, .inr ((.object "java/lang/String"), kn, (Own.tN n Hf sf))) :: (va, .inr ((.object "java/lang/Object"), kv, (Own.tab n Vf))) :: (oa, .inr (.int, ko, (Own.tO n og))) :: fr) tl h ((t, o_NV (.ref na) (.ref va) (.ref oa) (.int (z.toInt32))) :: (na, .inr ((.object "java/lang/String"), kn, (Own.tN n Hf sf))) :: (va, .inr ((.object "java/lang/Object"), kv, (Own.tab n Vf))) :: (oa, .inr (.int, ko, (Own.tO n og))) :: (fr ++ tl)) H rfl SC hc0 hs) 0 0 0 12 ?_
  rintro _ h1 ⟨tl1, rfl, H2, hq3⟩
  show Own.W l Z _ K _ h1 0 0 12 #[.val (.ref t), .val (.ref a), .val v, .val (.int (Own.mk n)), .unset, .unset] [(.int c)]
  have H4 : Own.HS Z h1 ((t, o_NV (.ref na) (.ref va) (.ref oa) (.int (z.toInt32))) :: (na, .inr ((.object "java/lang/String"), kn, (Own.tN n Hf sf))) :: (va, .inr ((.object "java/lang/Object"), kv, (Own.tab n Vf))) :: (oa, .inr (.int, ko, (Own.tO n og))) :: (fr ++ tl1)) := H2
  have mo := hq3
  have hs2 := mo.1 _ _ hs
  have hv2 := mo.vok hv
  have hV2 := fun j => mo.vok (hV j)
  have hS2 := mo.sok hS
  refine Own.W.iloadN ok d_prog_12_method_5_12 13 rfl ?_
  refine Own.W.iandV ok d_prog_12_method_5_13 14 ((Own.pr n (Own.s0 n c) 0).toInt32) (Own.s0_spec hn c).1 ?_
  refine Own.W.istore ok d_prog_12_method_5_14 16 #[.val (.ref t), .val (.ref a), .val v, .val (.int (Own.mk n)), .val (.int ((Own.pr n (Own.s0 n c) 0).toInt32)), .unset] rfl ?_
  have J5 : Own.W l Z ({ frames := 2, cells := 0, slots := 0, locals := 44 } : Room) K (fun rr h' => ∃ (u : Value) (na2 : Addr) (va2 : Addr) (oa2 : Addr) (kn2 : ClassId) (kv2 : ClassId) (ko2 : ClassId) (K2 : Nat → Int32) (H2 : Nat → Bool) (V2 : Nat → Value) (s2 : Nat → Addr) (o2 : Nat → Nat) (z2 : Nat) (tl2 : List (Addr × Own.Pc)), rr = some u ∧ Own.HS Z h' ((t, o_NV (.ref na2) (.ref va2) (.ref oa2) (.int (z2.toInt32))) :: (na2, .inr ((.object "java/lang/String"), kn2, (Own.tN n H2 s2))) :: (va2, .inr ((.object "java/lang/Object"), kv2, (Own.tab n V2))) :: (oa2, .inr (.int, ko2, (Own.tO n o2))) :: (fr ++ tl2)) ∧ u.isRef = true ∧ Own.TS Z tl2 n K2 H2 V2 s2 o2 (Own.updL es c v) z2 kn2 kv2 ∧ Own.Mono Z tl tl2 ∧ z2 ≤ z + 1) h1 0 0 62 #[.val (.ref t), .val (.ref a), .val v, .val (.int (Own.mk n)), .val (.int ((Own.pr n (Own.s0 n c) D).toInt32)), .unset] [] := by
    cases hb : Hf (Own.pr n (Own.s0 n c) D) with
    | false =>
      refine Own.W.aloadN ok d_prog_12_method_5_62 63 rfl rfl ?_
      refine Own.W.getF ok tb 65 rfl Via.refl (H4.fld (i := 0) (j := 1) rfl rfl) d_prog_12_method_5_63 66 ?_
      refine Own.W.iload ok d_prog_12_method_5_66 68 rfl ?_
      refine Own.W.aald ok H4 (i := 2) rfl (Own.nng hn (Own.pr_lt hn _ _)) (Own.getV hn (Own.pr_lt hn _ _)) d_prog_12_method_5_68 69 ?_
      refine Own.W.astore ok d_prog_12_method_5_69 71 #[.val (.ref t), .val (.ref a), .val v, .val (.int (Own.mk n)), .val (.int ((Own.pr n (Own.s0 n c) D).toInt32)), .val (Vf (Own.pr n (Own.s0 n c) D))] (hV2 (Own.pr n (Own.s0 n c) D)).ref (by rcases ref_cases (hV2 (Own.pr n (Own.s0 n c) D)).ref with e | ⟨_, e⟩ <;> rw [e] <;> rfl) ?_
      refine Own.W.aloadN ok d_prog_12_method_5_71 72 rfl rfl ?_
      refine Own.W.getF ok tb 65 rfl Via.refl (H4.fld (i := 0) (j := 1) rfl rfl) d_prog_12_method_5_72 75 ?_
      refine Own.W.iload ok d_prog_12_method_5_75 77 rfl ?_
      refine Own.W.aloadN ok d_prog_12_method_5_77 78 rfl hv.ref ?_
      refine Own.W.aast ok H4 (i := 2) rfl (Own.nng hn (Own.pr_lt hn _ _)) (Own.ltT hn (Own.pr_lt hn _ _)) (Own.VOK.sto H4 (i := 2) rfl Ov Own.mem4 hv2 (tb _ (List.mem_of_getElem? (i := 99) rfl))) d_prog_12_method_5_78 79 ((t, o_NV (.ref na) (.ref va) (.ref oa) (.int (z.toInt32))) :: (na, .inr ((.object "java/lang/String"), kn, (Own.tN n Hf sf))) :: (va, .inr ((.object "java/lang/Object"), kv, (Own.tab n (Own.fs Vf (Own.pr n (Own.s0 n c) D) v)))) :: (oa, .inr (.int, ko, (Own.tO n og))) :: (fr ++ tl1)) (by rw [Own.setV hn (Own.pr_lt hn _ _)]; rfl) (fun h6 H7 => ?_)
      refine Own.W.aloadN ok d_prog_12_method_5_79 80 rfl rfl ?_
      refine Own.W.getF ok tb 61 rfl Via.refl (H7.fld (i := 0) (j := 0) rfl rfl) d_prog_12_method_5_80 83 ?_
      refine Own.W.iload ok d_prog_12_method_5_83 85 rfl ?_
      refine Own.W.aald ok H7 (i := 1) rfl (Own.nng hn (Own.pr_lt hn _ _)) (show _ = some Value.null from Own.getN hn (Own.pr_lt hn _ _) hb) d_prog_12_method_5_85 86 ?_
      refine Own.W.ifnonnullF ok d_prog_12_method_5_86 89 ?_
      refine Own.W.aloadN ok d_prog_12_method_5_89 90 rfl rfl ?_
      refine Own.W.getF ok tb 61 rfl Via.refl (H7.fld (i := 0) (j := 0) rfl rfl) d_prog_12_method_5_90 93 ?_
      refine Own.W.iload ok d_prog_12_method_5_93 95 rfl ?_
      refine Own.W.aloadN ok d_prog_12_method_5_95 96 rfl rfl ?_
      refine Own.W.aast ok H7 (i := 1) rfl (Own.nng hn (Own.pr_lt hn _ _)) (Own.ltT hn (Own.pr_lt hn _ _)) (H7.sto (i := 1) rfl On (Ins.self (Own.SOK.exa H7 Own.mem4 hs2))) d_prog_12_method_5_96 97 ((t, o_NV (.ref na) (.ref va) (.ref oa) (.int (z.toInt32))) :: (na, .inr ((.object "java/lang/String"), kn, (Own.tN n (Own.fs Hf (Own.pr n (Own.s0 n c) D) true) (Own.fs sf (Own.pr n (Own.s0 n c) D) a)))) :: (va, .inr ((.object "java/lang/Object"), kv, (Own.tab n (Own.fs Vf (Own.pr n (Own.s0 n c) D) v)))) :: (oa, .inr (.int, ko, (Own.tO n og))) :: (fr ++ tl1)) (by rw [Own.setN hn (Own.pr_lt hn _ _)]; rfl) (fun h8 H9 => ?_)
      refine Own.W.aloadN ok d_prog_12_method_5_97 98 rfl rfl ?_
      refine Own.W.getF ok tb 68 rfl Via.refl (H9.fld (i := 0) (j := 2) rfl rfl) d_prog_12_method_5_98 101 ?_
      refine Own.W.aloadN ok d_prog_12_method_5_101 102 rfl rfl ?_
      refine Own.W.dup ok d_prog_12_method_5_102 103 rfl ?_
      refine Own.W.getF ok tb 100 rfl Via.refl (H9.fld (i := 0) (j := 3) rfl rfl) d_prog_12_method_5_103 106 ?_
      refine Own.W.dupX1 ok d_prog_12_method_5_106 107 rfl rfl ?_
      refine Own.W.iconst ok d_prog_12_method_5_107 108 (1 : Int32) rfl ?_
      refine Own.W.iaddV ok d_prog_12_method_5_108 109 ((z + 1).toInt32) (Own.sucI z) ?_
      refine Own.W.putF ok tb H9 (i := 0) (j := 3) (ty := .int) (w' := (.int ((z + 1).toInt32))) rfl rfl 100 35 rfl rfl Via.refl (Or.inl (tb _ (List.mem_of_getElem? (i := 101) rfl))) (Own.Lay.of (nw_NV tb) rfl) (by decide) rfl rfl d_prog_12_method_5_109 112 ((t, o_NV (.ref na) (.ref va) (.ref oa) (.int ((z + 1).toInt32))) :: (na, .inr ((.object "java/lang/String"), kn, (Own.tN n (Own.fs Hf (Own.pr n (Own.s0 n c) D) true) (Own.fs sf (Own.pr n (Own.s0 n c) D) a)))) :: (va, .inr ((.object "java/lang/Object"), kv, (Own.tab n (Own.fs Vf (Own.pr n (Own.s0 n c) D) v)))) :: (oa, .inr (.int, ko, (Own.tO n og))) :: (fr ++ tl1)) rfl (fun h10 H11 => ?_)
      refine Own.W.iload ok d_prog_12_method_5_112 114 rfl ?_
      refine Own.W.iast ok H11 (i := 3) rfl (Own.nng hn (by omega)) (Own.ltO hn hz) d_prog_12_method_5_114 115 ((t, o_NV (.ref na) (.ref va) (.ref oa) (.int ((z + 1).toInt32))) :: (na, .inr ((.object "java/lang/String"), kn, (Own.tN n (Own.fs Hf (Own.pr n (Own.s0 n c) D) true) (Own.fs sf (Own.pr n (Own.s0 n c) D) a)))) :: (va, .inr ((.object "java/lang/Object"), kv, (Own.tab n (Own.fs Vf (Own.pr n (Own.s0 n c) D) v)))) :: (oa, .inr (.int, ko, (Own.tO n (Own.fs og z (Own.pr n (Own.s0 n c) D))))) :: (fr ++ tl1)) (by rw [Own.setO hn hz]; rfl) (fun h12 H13 => ?_)
      refine Own.W.aloadN ok d_prog_12_method_5_115 116 rfl rfl ?_
      refine Own.W.getF ok tb 100 rfl Via.refl (H13.fld (i := 0) (j := 3) rfl rfl) d_prog_12_method_5_116 119 ?_
      refine Own.W.iconst ok d_prog_12_method_5_119 120 (2 : Int32) rfl ?_
      refine Own.W.imul ok d_prog_12_method_5_120 121 ?_
      refine Own.W.aloadN ok d_prog_12_method_5_121 122 rfl rfl ?_
      refine Own.W.getF ok tb 61 rfl Via.refl (H13.fld (i := 0) (j := 0) rfl rfl) d_prog_12_method_5_122 125 ?_
      refine Own.W.alen ok H13 (i := 1) rfl d_prog_12_method_5_125 126 (n.toInt32) Own.lenN ?_
      refine Own.W.icmpT ok d_prog_12_method_5_126 133 ((Own.sz_lt hn (by omega)).mpr hg0) ?_
      refine Own.W.aload ok d_prog_12_method_5_133 135 rfl (hV2 (Own.pr n (Own.s0 n c) D)).ref ?_
      exact Own.W.aret ok d_prog_12_method_5_135 ⟨_, na, va, oa, kn, kv, ko, Own.fs Kf (Own.pr n (Own.s0 n c) D) c, Own.fs Hf (Own.pr n (Own.s0 n c) D) true, Own.fs Vf (Own.pr n (Own.s0 n c) D) v, Own.fs sf (Own.pr n (Own.s0 n c) D) a, Own.fs og z (Own.pr n (Own.s0 n c) D), z + 1, tl1, rfl, H13, (hV2 _).ref, ⟨ez ▸ (T.add F hb).1, (T.add (v := v) F hb).2.trans (congrArg (· + 1) ez), hg0, Own.VOK.fs hV2 hv2, Own.SOK.fs hS2 hs2, On, Ov⟩, mo, Nat.le_refl _⟩ (by rcases ref_cases (hV2 (Own.pr n (Own.s0 n c) D)).ref with e | ⟨_, e⟩ <;> rw [e] <;> rfl) rfl (hV2 (Own.pr n (Own.s0 n c) D)).ref
    | true =>
      have hk : Kf (Own.pr n (Own.s0 n c) D) = c := by
        rcases F.2.1 with q | q
        · rw [hb] at q; cases q
        · exact q
      refine Own.W.aloadN ok d_prog_12_method_5_62 63 rfl rfl ?_
      refine Own.W.getF ok tb 65 rfl Via.refl (H4.fld (i := 0) (j := 1) rfl rfl) d_prog_12_method_5_63 66 ?_
      refine Own.W.iload ok d_prog_12_method_5_66 68 rfl ?_
      refine Own.W.aald ok H4 (i := 2) rfl (Own.nng hn (Own.pr_lt hn _ _)) (Own.getV hn (Own.pr_lt hn _ _)) d_prog_12_method_5_68 69 ?_
      refine Own.W.astore ok d_prog_12_method_5_69 71 #[.val (.ref t), .val (.ref a), .val v, .val (.int (Own.mk n)), .val (.int ((Own.pr n (Own.s0 n c) D).toInt32)), .val (Vf (Own.pr n (Own.s0 n c) D))] (hV2 (Own.pr n (Own.s0 n c) D)).ref (by rcases ref_cases (hV2 (Own.pr n (Own.s0 n c) D)).ref with e | ⟨_, e⟩ <;> rw [e] <;> rfl) ?_
      refine Own.W.aloadN ok d_prog_12_method_5_71 72 rfl rfl ?_
      refine Own.W.getF ok tb 65 rfl Via.refl (H4.fld (i := 0) (j := 1) rfl rfl) d_prog_12_method_5_72 75 ?_
      refine Own.W.iload ok d_prog_12_method_5_75 77 rfl ?_
      refine Own.W.aloadN ok d_prog_12_method_5_77 78 rfl hv.ref ?_
      refine Own.W.aast ok H4 (i := 2) rfl (Own.nng hn (Own.pr_lt hn _ _)) (Own.ltT hn (Own.pr_lt hn _ _)) (Own.VOK.sto H4 (i := 2) rfl Ov Own.mem4 hv2 (tb _ (List.mem_of_getElem? (i := 99) rfl))) d_prog_12_method_5_78 79 ((t, o_NV (.ref na) (.ref va) (.ref oa) (.int (z.toInt32))) :: (na, .inr ((.object "java/lang/String"), kn, (Own.tN n Hf sf))) :: (va, .inr ((.object "java/lang/Object"), kv, (Own.tab n (Own.fs Vf (Own.pr n (Own.s0 n c) D) v)))) :: (oa, .inr (.int, ko, (Own.tO n og))) :: (fr ++ tl1)) (by rw [Own.setV hn (Own.pr_lt hn _ _)]; rfl) (fun h14 H15 => ?_)
      refine Own.W.aloadN ok d_prog_12_method_5_79 80 rfl rfl ?_
      refine Own.W.getF ok tb 61 rfl Via.refl (H15.fld (i := 0) (j := 0) rfl rfl) d_prog_12_method_5_80 83 ?_
      refine Own.W.iload ok d_prog_12_method_5_83 85 rfl ?_
      refine Own.W.aald ok H15 (i := 1) rfl (Own.nng hn (Own.pr_lt hn _ _)) (show _ = some (Value.ref (sf (Own.pr n (Own.s0 n c) D))) from Own.getN hn (Own.pr_lt hn _ _) hb) d_prog_12_method_5_85 86 ?_
      refine Own.W.ifnonnullT ok d_prog_12_method_5_86 133 ?_
      refine Own.W.aload ok d_prog_12_method_5_133 135 rfl (hV2 (Own.pr n (Own.s0 n c) D)).ref ?_
      exact Own.W.aret ok d_prog_12_method_5_135 ⟨_, na, va, oa, kn, kv, ko, Kf, Hf, Own.fs Vf (Own.pr n (Own.s0 n c) D) v, sf, og, z, tl1, rfl, H15, (hV2 _).ref, ⟨(T.hit F hb hk).1, (T.hit (v := v) F hb hk).2.trans ez, hz, Own.VOK.fs hV2 hv2, hS2, On, Ov⟩, mo, Nat.le_succ _⟩ (by rcases ref_cases (hV2 (Own.pr n (Own.s0 n c) D)).ref with e | ⟨_, e⟩ <;> rw [e] <;> rfl) rfl (hV2 (Own.pr n (Own.s0 n c) D)).ref
  have L : ∀ mm d, d + mm = D → Own.W l Z ({ frames := 2, cells := 0, slots := 0, locals := 44 } : Room) K (fun rr h' => ∃ (u : Value) (na2 : Addr) (va2 : Addr) (oa2 : Addr) (kn2 : ClassId) (kv2 : ClassId) (ko2 : ClassId) (K2 : Nat → Int32) (H2 : Nat → Bool) (V2 : Nat → Value) (s2 : Nat → Addr) (o2 : Nat → Nat) (z2 : Nat) (tl2 : List (Addr × Own.Pc)), rr = some u ∧ Own.HS Z h' ((t, o_NV (.ref na2) (.ref va2) (.ref oa2) (.int (z2.toInt32))) :: (na2, .inr ((.object "java/lang/String"), kn2, (Own.tN n H2 s2))) :: (va2, .inr ((.object "java/lang/Object"), kv2, (Own.tab n V2))) :: (oa2, .inr (.int, ko2, (Own.tO n o2))) :: (fr ++ tl2)) ∧ u.isRef = true ∧ Own.TS Z tl2 n K2 H2 V2 s2 o2 (Own.updL es c v) z2 kn2 kv2 ∧ Own.Mono Z tl tl2 ∧ z2 ≤ z + 1) h1 0 0 16 #[.val (.ref t), .val (.ref a), .val v, .val (.int (Own.mk n)), .val (.int ((Own.pr n (Own.s0 n c) d).toInt32)), .unset] [] := by
    intro mm
    induction mm with
    | zero =>
      intro d hd
      have e : d = D := by omega
      rw [e]
      cases hb : Hf (Own.pr n (Own.s0 n c) D) with
      | false =>
        refine Own.W.aloadN ok d_prog_12_method_5_16 17 rfl rfl ?_
        refine Own.W.getF ok tb 61 rfl Via.refl (H4.fld (i := 0) (j := 0) rfl rfl) d_prog_12_method_5_17 20 ?_
        refine Own.W.iload ok d_prog_12_method_5_20 22 rfl ?_
        refine Own.W.aald ok H4 (i := 1) rfl (Own.nng hn (Own.pr_lt hn _ _)) (show _ = some Value.null from Own.getN hn (Own.pr_lt hn _ _) hb) d_prog_12_method_5_22 23 ?_
        refine Own.W.ifnullT ok d_prog_12_method_5_23 62 ?_
        exact J5
      | true =>
        have hk : Kf (Own.pr n (Own.s0 n c) D) = c := by
          rcases F.2.1 with q | q
          · rw [hb] at q; cases q
          · exact q
        refine Own.W.aloadN ok d_prog_12_method_5_16 17 rfl rfl ?_
        refine Own.W.getF ok tb 61 rfl Via.refl (H4.fld (i := 0) (j := 0) rfl rfl) d_prog_12_method_5_17 20 ?_
        refine Own.W.iload ok d_prog_12_method_5_20 22 rfl ?_
        refine Own.W.aald ok H4 (i := 1) rfl (Own.nng hn (Own.pr_lt hn _ _)) (show _ = some (Value.ref (sf (Own.pr n (Own.s0 n c) D))) from Own.getN hn (Own.pr_lt hn _ _) hb) d_prog_12_method_5_22 23 ?_
        refine Own.W.ifnullF ok d_prog_12_method_5_23 26 ?_
        refine Own.W.aloadN ok d_prog_12_method_5_26 27 rfl rfl ?_
        refine Own.W.getF ok tb 61 rfl Via.refl (H4.fld (i := 0) (j := 0) rfl rfl) d_prog_12_method_5_27 30 ?_
        refine Own.W.iload ok d_prog_12_method_5_30 32 rfl ?_
        refine Own.W.aald ok H4 (i := 1) rfl (Own.nng hn (Own.pr_lt hn _ _)) (show _ = some (Value.ref (sf (Own.pr n (Own.s0 n c) D))) from Own.getN hn (Own.pr_lt hn _ _) hb) d_prog_12_method_5_32 33 ?_
        have hsx := hS2 (Own.pr n (Own.s0 n c) D) hb
        by_cases ea : sf (Own.pr n (Own.s0 n c) D) = a
        · refine Own.W.aloadN ok d_prog_12_method_5_33 34 rfl rfl ?_
          refine Own.W.acmp ok d_prog_12_method_5_34 62 true (decide_eq_true (congrArg Value.ref ea)) ?_
          exact J5
        · refine Own.W.aloadN ok d_prog_12_method_5_33 34 rfl rfl ?_
          refine Own.W.acmp ok d_prog_12_method_5_34 37 false (decide_eq_false fun q => ea (Value.ref.inj q)) ?_
          refine Own.W.aloadN ok d_prog_12_method_5_37 38 rfl rfl ?_
          refine Own.W.getF ok tb 61 rfl Via.refl (H4.fld (i := 0) (j := 0) rfl rfl) d_prog_12_method_5_38 41 ?_
          refine Own.W.iload ok d_prog_12_method_5_41 43 rfl ?_
          refine Own.W.aald ok H4 (i := 1) rfl (Own.nng hn (Own.pr_lt hn _ _)) (show _ = some (Value.ref (sf (Own.pr n (Own.s0 n c) D))) from Own.getN hn (Own.pr_lt hn _ _) hb) d_prog_12_method_5_43 44 ?_
          refine Own.W.aloadN ok d_prog_12_method_5_44 45 rfl rfl ?_
          refine Own.W.callV ok tb (a := (sf (Own.pr n (Own.s0 n c) D))) (argsL := [(.ref a)]) (rest := []) 102 103 105 104 106 7 rfl rfl rfl rfl rfl rfl (notFace_of_selects (args := #[]) (mvT ok.2.1 (tb _ (List.mem_of_getElem? (i := 105) rfl)))) (Own.SOK.exa H4 Own.mem4 hsx) d_prog_12_method_5_45 pd_7 (c_seq l tb (sf (Own.pr n (Own.s0 n c) D)) a c0 (Kf (Own.pr n (Own.s0 n c) D)) c tl1 h1 ((t, o_NV (.ref na) (.ref va) (.ref oa) (.int (z.toInt32))) :: (na, .inr ((.object "java/lang/String"), kn, (Own.tN n Hf sf))) :: (va, .inr ((.object "java/lang/Object"), kv, (Own.tab n Vf))) :: (oa, .inr (.int, ko, (Own.tO n og))) :: (fr ++ tl1)) H4 Own.mem4 SC hc0 ea hsx hs2) 0 0 0 48 ?_
          rintro _ _ ⟨rfl, rfl⟩
          show Own.W l Z _ K _ h1 0 0 48 #[.val (.ref t), .val (.ref a), .val v, .val (.int (Own.mk n)), .val (.int ((Own.pr n (Own.s0 n c) D).toInt32)), .unset] [(.int (if (Kf (Own.pr n (Own.s0 n c) D)) = c then 1 else 0))]
          refine Own.W.ifT ok d_prog_12_method_5_48 62 (by rw [if_pos hk]; exact (by decide : ¬ ((1 : Int32) = 0))) ?_
          exact J5
    | succ mm ih =>
      intro d hd
      have q := F.2.2 d (by omega)
      refine Own.W.aloadN ok d_prog_12_method_5_16 17 rfl rfl ?_
      refine Own.W.getF ok tb 61 rfl Via.refl (H4.fld (i := 0) (j := 0) rfl rfl) d_prog_12_method_5_17 20 ?_
      refine Own.W.iload ok d_prog_12_method_5_20 22 rfl ?_
      refine Own.W.aald ok H4 (i := 1) rfl (Own.nng hn (Own.pr_lt hn _ _)) (show _ = some (Value.ref (sf (Own.pr n (Own.s0 n c) d))) from Own.getN hn (Own.pr_lt hn _ _) q.1) d_prog_12_method_5_22 23 ?_
      refine Own.W.ifnullF ok d_prog_12_method_5_23 26 ?_
      refine Own.W.aloadN ok d_prog_12_method_5_26 27 rfl rfl ?_
      refine Own.W.getF ok tb 61 rfl Via.refl (H4.fld (i := 0) (j := 0) rfl rfl) d_prog_12_method_5_27 30 ?_
      refine Own.W.iload ok d_prog_12_method_5_30 32 rfl ?_
      refine Own.W.aald ok H4 (i := 1) rfl (Own.nng hn (Own.pr_lt hn _ _)) (show _ = some (Value.ref (sf (Own.pr n (Own.s0 n c) d))) from Own.getN hn (Own.pr_lt hn _ _) q.1) d_prog_12_method_5_32 33 ?_
      have hsx := hS2 (Own.pr n (Own.s0 n c) d) q.1
      have ea : ¬ (sf (Own.pr n (Own.s0 n c) d) = a) := fun e => q.2 (Own.SOK.uniq H4 Own.mem4 (e ▸ hsx) hs2)
      refine Own.W.aloadN ok d_prog_12_method_5_33 34 rfl rfl ?_
      refine Own.W.acmp ok d_prog_12_method_5_34 37 false (decide_eq_false fun q => ea (Value.ref.inj q)) ?_
      refine Own.W.aloadN ok d_prog_12_method_5_37 38 rfl rfl ?_
      refine Own.W.getF ok tb 61 rfl Via.refl (H4.fld (i := 0) (j := 0) rfl rfl) d_prog_12_method_5_38 41 ?_
      refine Own.W.iload ok d_prog_12_method_5_41 43 rfl ?_
      refine Own.W.aald ok H4 (i := 1) rfl (Own.nng hn (Own.pr_lt hn _ _)) (show _ = some (Value.ref (sf (Own.pr n (Own.s0 n c) d))) from Own.getN hn (Own.pr_lt hn _ _) q.1) d_prog_12_method_5_43 44 ?_
      refine Own.W.aloadN ok d_prog_12_method_5_44 45 rfl rfl ?_
      refine Own.W.callV ok tb (a := (sf (Own.pr n (Own.s0 n c) d))) (argsL := [(.ref a)]) (rest := []) 102 103 105 104 106 7 rfl rfl rfl rfl rfl rfl (notFace_of_selects (args := #[]) (mvT ok.2.1 (tb _ (List.mem_of_getElem? (i := 105) rfl)))) (Own.SOK.exa H4 Own.mem4 hsx) d_prog_12_method_5_45 pd_7 (c_seq l tb (sf (Own.pr n (Own.s0 n c) d)) a c0 (Kf (Own.pr n (Own.s0 n c) d)) c tl1 h1 ((t, o_NV (.ref na) (.ref va) (.ref oa) (.int (z.toInt32))) :: (na, .inr ((.object "java/lang/String"), kn, (Own.tN n Hf sf))) :: (va, .inr ((.object "java/lang/Object"), kv, (Own.tab n Vf))) :: (oa, .inr (.int, ko, (Own.tO n og))) :: (fr ++ tl1)) H4 Own.mem4 SC hc0 ea hsx hs2) 0 0 0 48 ?_
      rintro _ _ ⟨rfl, rfl⟩
      show Own.W l Z _ K _ h1 0 0 48 #[.val (.ref t), .val (.ref a), .val v, .val (.int (Own.mk n)), .val (.int ((Own.pr n (Own.s0 n c) d).toInt32)), .unset] [(.int (if (Kf (Own.pr n (Own.s0 n c) d)) = c then 1 else 0))]
      refine Own.W.ifF ok d_prog_12_method_5_48 51 (if_neg q.2) ?_
      refine Own.W.iload ok d_prog_12_method_5_51 53 rfl ?_
      refine Own.W.iconst ok d_prog_12_method_5_53 54 (1 : Int32) rfl ?_
      refine Own.W.iadd ok d_prog_12_method_5_54 55 ?_
      refine Own.W.iloadN ok d_prog_12_method_5_55 56 rfl ?_
      refine Own.W.iandV ok d_prog_12_method_5_56 57 ((Own.pr n (Own.s0 n c) (d + 1)).toInt32) (Own.nx hn _ _) ?_
      refine Own.W.istore ok d_prog_12_method_5_57 59 #[.val (.ref t), .val (.ref a), .val v, .val (.int (Own.mk n)), .val (.int ((Own.pr n (Own.s0 n c) (d + 1)).toInt32)), .unset] rfl ?_
      refine Own.W.goto ok d_prog_12_method_5_59 16 ?_
      exact ih (d + 1) (by omega)
  exact L D 0 (Nat.zero_add _)
set_option maxRecDepth 65536 in
set_option maxHeartbeats 4000000 in
theorem c_grow4 (l : Launch) {Z : State} {a0 : Array Value} (tb : Own.Tb Z a0 tables_1) (t : Addr) (na : Addr) (va : Addr) (oa : Addr) (kn : ClassId) (kv : ClassId) (ko : ClassId) (Kf : Nat → Int32) (Hf : Nat → Bool) (Vf : Nat → Value) (sf : Nat → Addr) (og : Nat → Nat) (es : List (Int32 × Value)) (c0 : Int32) (fr : List (Addr × Own.Pc)) (tl : List (Addr × Own.Pc)) (h : Heap) (cs : List (Addr × Own.Pc)) (H : Own.HS Z h ((t, o_NV (.ref na) (.ref va) (.ref oa) (.int (2 : Int32))) :: (na, .inr ((.object "java/lang/String"), kn, (Own.tN 4 Hf sf))) :: (va, .inr ((.object "java/lang/Object"), kv, (Own.tab 4 Vf))) :: (oa, .inr (.int, ko, (Own.tO 4 og))) :: cs)) (ecs : cs = fr ++ tl) (SC : Sta Z Z.heap "java/lang/String" "COMPACT_STRINGS" "Z" (.int c0)) (hc0 : ¬ (c0 = (0 : Int32))) (T : Own.NT 4 Kf Hf Vf og es) (el : es.length = 2) (hV : ∀ j, Own.VOK Z tl (Vf j)) (hS : ∀ j, Hf j = true → Own.SOK tl (sf j) (Kf j)) :
    Own.Con l Z (⟨"com/example/vestwright/vestwright/NamedValues", "grow", "()V"⟩ : MethodName) prog_12_method_11_code 6 none ({ frames := 3, cells := 3, slots := 20, locals := 64 } : Room) #[(.ref t)] h (fun rr h' => ∃ (na2 : Addr) (va2 : Addr) (oa2 : Addr) (kn2 : ClassId) (kv2 : ClassId) (ko2 : ClassId) (K2 : Nat → Int32) (H2 : Nat → Bool) (V2 : Nat → Value) (s2 : Nat → Addr) (o2 : Nat → Nat) (z2 : Nat) (tl2 : List (Addr × Own.Pc)), rr = none ∧ Own.HS Z h' ((t, o_NV (.ref na2) (.ref va2) (.ref oa2) (.int (z2.toInt32))) :: (na2, .inr ((.object "java/lang/String"), kn2, (Own.tN 8 H2 s2))) :: (va2, .inr ((.object "java/lang/Object"), kv2, (Own.tab 8 V2))) :: (oa2, .inr (.int, ko2, (Own.tO 8 o2))) :: (fr ++ tl2)) ∧ Own.TS Z tl2 8 K2 H2 V2 s2 o2 es z2 kn2 kv2 ∧ Own.Mono Z tl tl2) := by
  refine Own.Con.of (plainFor_of_name (by first | (simp [plainName, overriddenIn]; done) | decide +kernel)) #[.val (.ref t), .unset, .unset, .unset, .unset, .unset] (fun m => by first | rfl | (simp [entryFrame, mkF, argsToLocals, Value.category, maxLocals]; done)) (fun K ok => ?_)
  subst ecs
  have r0 := T.2.2.2.1.1 0 (by omega)
  have r1 := T.2.2.2.1.1 1 (by omega)
  refine Own.W.aloadN ok d_prog_12_method_11_0 1 rfl rfl ?_
  refine Own.W.getF ok tb 61 rfl Via.refl (H.fld (i := 0) (j := 0) rfl rfl) d_prog_12_method_11_1 4 ?_
  refine Own.W.astoreN ok d_prog_12_method_11_4 5 #[.val (.ref t), .val (.ref na), .unset, .unset, .unset, .unset] rfl rfl ?_
  refine Own.W.aloadN ok d_prog_12_method_11_5 6 rfl rfl ?_
  refine Own.W.getF ok tb 65 rfl Via.refl (H.fld (i := 0) (j := 1) rfl rfl) d_prog_12_method_11_6 9 ?_
  refine Own.W.astoreN ok d_prog_12_method_11_9 10 #[.val (.ref t), .val (.ref na), .val (.ref va), .unset, .unset, .unset] rfl rfl ?_
  refine Own.W.aloadN ok d_prog_12_method_11_10 11 rfl rfl ?_
  refine Own.W.getF ok tb 68 rfl Via.refl (H.fld (i := 0) (j := 2) rfl rfl) d_prog_12_method_11_11 14 ?_
  refine Own.W.astoreN ok d_prog_12_method_11_14 15 #[.val (.ref t), .val (.ref na), .val (.ref va), .val (.ref oa), .unset, .unset] rfl rfl ?_
  refine Own.W.aloadN ok d_prog_12_method_11_15 16 rfl rfl ?_
  refine Own.W.getF ok tb 100 rfl Via.refl (H.fld (i := 0) (j := 3) rfl rfl) d_prog_12_method_11_16 19 ?_
  refine Own.W.istore ok d_prog_12_method_11_19 21 #[.val (.ref t), .val (.ref na), .val (.ref va), .val (.ref oa), .val (.int (2 : Int32)), .unset] rfl ?_
  refine Own.W.aloadN ok d_prog_12_method_11_21 22 rfl rfl ?_
  refine Own.W.aloadN ok d_prog_12_method_11_22 23 rfl rfl ?_
  refine Own.W.alen ok H (i := 1) rfl d_prog_12_method_11_23 24 (4 : Int32) (by rw [Own.lenN]; rfl) ?_
  refine Own.W.iconst ok d_prog_12_method_11_24 25 (2 : Int32) rfl ?_
  refine Own.W.imulV ok d_prog_12_method_11_25 26 (8 : Int32) (by decide) ?_
  refine Own.W.newR ok tb H 59 60 rfl rfl d_prog_12_method_11_26 8 (Own.tN 8 (fun _ => false) sf) rfl 1 8 29 (by decide) (by decide) (fun a1 k2 h3 O5 H4 => ?_)
  show Own.W l Z _ K _ h3 1 8 29 #[.val (.ref t), .val (.ref na), .val (.ref va), .val (.ref oa), .val (.int (2 : Int32)), .unset] [(.ref a1), (.ref t)]
  refine Own.W.putF ok tb H4 (i := 1) (j := 0) (ty := (.array (.object "java/lang/String"))) (w' := (.ref a1)) rfl rfl 61 35 rfl rfl Via.refl (Or.inl (tb _ (List.mem_of_getElem? (i := 62) rfl))) (Own.Lay.of (nw_NV tb) rfl) (by decide) rfl rfl d_prog_12_method_11_29 32 ((a1, .inr ((.object "java/lang/String"), k2, (Own.tN 8 (fun _ => false) sf))) :: (t, o_NV (.ref a1) (.ref va) (.ref oa) (.int (2 : Int32))) :: (na, .inr ((.object "java/lang/String"), kn, (Own.tN 4 Hf sf))) :: (va, .inr ((.object "java/lang/Object"), kv, (Own.tab 4 Vf))) :: (oa, .inr (.int, ko, (Own.tO 4 og))) :: (fr ++ tl)) rfl (fun h6 H7 => ?_)
  refine Own.W.aloadN ok d_prog_12_method_11_32 33 rfl rfl ?_
  refine Own.W.aloadN ok d_prog_12_method_11_33 34 rfl rfl ?_
  refine Own.W.getF ok tb 61 rfl Via.refl (H7.fld (i := 1) (j := 0) rfl rfl) d_prog_12_method_11_34 37 ?_
  refine Own.W.alen ok H7 (i := 0) rfl d_prog_12_method_11_37 38 (8 : Int32) (by rw [Own.lenN]; rfl) ?_
  refine Own.W.newR ok tb H7 63 64 rfl rfl d_prog_12_method_11_38 8 (Own.tab 8 (fun _ => .null)) rfl 2 16 41 (by decide) (by decide) (fun a8 k9 h10 O12 H11 => ?_)
  show Own.W l Z _ K _ h10 2 16 41 #[.val (.ref t), .val (.ref na), .val (.ref va), .val (.ref oa), .val (.int (2 : Int32)), .unset] [(.ref a8), (.ref t)]
  refine Own.W.putF ok tb H11 (i := 2) (j := 1) (ty := (.array (.object "java/lang/Object"))) (w' := (.ref a8)) rfl rfl 65 35 rfl rfl Via.refl (Or.inl (tb _ (List.mem_of_getElem? (i := 66) rfl))) (Own.Lay.of (nw_NV tb) rfl) (by decide) rfl rfl d_prog_12_method_11_41 44 ((a8, .inr ((.object "java/lang/Object"), k9, (Own.tab 8 (fun _ => .null)))) :: (a1, .inr ((.object "java/lang/String"), k2, (Own.tN 8 (fun _ => false) sf))) :: (t, o_NV (.ref a1) (.ref a8) (.ref oa) (.int (2 : Int32))) :: (na, .inr ((.object "java/lang/String"), kn, (Own.tN 4 Hf sf))) :: (va, .inr ((.object "java/lang/Object"), kv, (Own.tab 4 Vf))) :: (oa, .inr (.int, ko, (Own.tO 4 og))) :: (fr ++ tl)) rfl (fun h13 H14 => ?_)
  refine Own.W.aloadN ok d_prog_12_method_11_44 45 rfl rfl ?_
  refine Own.W.aloadN ok d_prog_12_method_11_45 46 rfl rfl ?_
  refine Own.W.getF ok tb 61 rfl Via.refl (H14.fld (i := 2) (j := 0) rfl rfl) d_prog_12_method_11_46 49 ?_
  refine Own.W.alen ok H14 (i := 1) rfl d_prog_12_method_11_49 50 (8 : Int32) (by rw [Own.lenN]; rfl) ?_
  refine Own.W.iconst ok d_prog_12_method_11_50 51 (2 : Int32) rfl ?_
  refine Own.W.idiv ok d_prog_12_method_11_51 52 (by decide) ?_
  refine Own.W.newP ok tb H14 67 rfl d_prog_12_method_11_52 4 (Own.tO 8 (fun _ => 0)) rfl 3 20 54 (by decide) (by decide) (fun a15 k16 h17 H18 => ?_)
  show Own.W l Z _ K _ h17 3 20 54 #[.val (.ref t), .val (.ref na), .val (.ref va), .val (.ref oa), .val (.int (2 : Int32)), .unset] [(.ref a15), (.ref t)]
  refine Own.W.putF ok tb H18 (i := 3) (j := 2) (ty := (.array .int)) (w' := (.ref a15)) rfl rfl 68 35 rfl rfl Via.refl (Or.inl (tb _ (List.mem_of_getElem? (i := 69) rfl))) (Own.Lay.of (nw_NV tb) rfl) (by decide) rfl rfl d_prog_12_method_11_54 57 ((a15, .inr (.int, k16, (Own.tO 8 (fun _ => 0)))) :: (a8, .inr ((.object "java/lang/Object"), k9, (Own.tab 8 (fun _ => .null)))) :: (a1, .inr ((.object "java/lang/String"), k2, (Own.tN 8 (fun _ => false) sf))) :: (t, o_NV (.ref a1) (.ref a8) (.ref a15) (.int (2 : Int32))) :: (na, .inr ((.object "java/lang/String"), kn, (Own.tN 4 Hf sf))) :: (va, .inr ((.object "java/lang/Object"), kv, (Own.tab 4 Vf))) :: (oa, .inr (.int, ko, (Own.tO 4 og))) :: (fr ++ tl)) rfl (fun h19 H20 => ?_)
  refine Own.W.aloadN ok d_prog_12_method_11_57 58 rfl rfl ?_
  refine Own.W.iconst ok d_prog_12_method_11_58 59 (0 : Int32) rfl ?_
  refine Own.W.putF ok tb H20 (i := 3) (j := 3) (ty := .int) (w' := (.int (0 : Int32))) rfl rfl 100 35 rfl rfl Via.refl (Or.inl (tb _ (List.mem_of_getElem? (i := 101) rfl))) (Own.Lay.of (nw_NV tb) rfl) (by decide) rfl rfl d_prog_12_method_11_59 62 ((a15, .inr (.int, k16, (Own.tO 8 (fun _ => 0)))) :: (a8, .inr ((.object "java/lang/Object"), k9, (Own.tab 8 (fun _ => .null)))) :: (a1, .inr ((.object "java/lang/String"), k2, (Own.tN 8 (fun _ => false) sf))) :: (t, o_NV (.ref a1) (.ref a8) (.ref a15) (.int (0 : Int32))) :: (na, .inr ((.object "java/lang/String"), kn, (Own.tN 4 Hf sf))) :: (va, .inr ((.object "java/lang/Object"), kv, (Own.tab 4 Vf))) :: (oa, .inr (.int, ko, (Own.tO 4 og))) :: (fr ++ tl)) rfl (fun h21 H22 => ?_)
  refine Own.W.iconst ok d_prog_12_method_11_62 63 (0 : Int32) rfl ?_
  refine Own.W.istore ok d_prog_12_method_11_63 65 #[.val (.ref t), .val (.ref na), .val (.ref va), .val (.ref oa), .val (.int (2 : Int32)), .val (.int (0 : Int32))] rfl ?_
  refine Own.W.iload ok d_prog_12_method_11_65 67 rfl ?_
  refine Own.W.iload ok d_prog_12_method_11_67 69 rfl ?_
  refine Own.W.icmpF ok d_prog_12_method_11_69 72 (by decide : (0 : Int32) < (2 : Int32)) ?_
  refine Own.W.aloadN ok d_prog_12_method_11_72 73 rfl rfl ?_
  refine Own.W.aloadN ok d_prog_12_method_11_73 74 rfl rfl ?_
  refine Own.W.aloadN ok d_prog_12_method_11_74 75 rfl rfl ?_
  refine Own.W.iload ok d_prog_12_method_11_75 77 rfl ?_
  refine Own.W.iald ok H22 (i := 6) rfl (by decide) (show _ = some (Value.int (og 0).toInt32) from Own.getO (i := 0) (Or.inl rfl) (by decide)) d_prog_12_method_11_77 78 ?_
  refine Own.W.aald ok H22 (i := 4) rfl (Own.nng (Or.inl rfl) r0.1) (show _ = some (Value.ref (sf (og 0))) from Own.getN (Or.inl rfl) r0.1 r0.2.1) d_prog_12_method_11_78 79 ?_
  refine Own.W.aloadN ok d_prog_12_method_11_79 80 rfl rfl ?_
  refine Own.W.aloadN ok d_prog_12_method_11_80 81 rfl rfl ?_
  refine Own.W.iload ok d_prog_12_method_11_81 83 rfl ?_
  refine Own.W.iald ok H22 (i := 6) rfl (by decide) (show _ = some (Value.int (og 0).toInt32) from Own.getO (i := 0) (Or.inl rfl) (by decide)) d_prog_12_method_11_83 84 ?_
  refine Own.W.aald ok H22 (i := 5) rfl (Own.nng (Or.inl rfl) r0.1) (Own.getV (Or.inl rfl) r0.1) d_prog_12_method_11_84 85 ?_
  have H23 : Own.HS Z h21 ((oa, .inr (.int, ko, (Own.tO 4 og))) :: (a15, .inr (.int, k16, (Own.tO 8 (fun _ => 0)))) :: (a8, .inr ((.object "java/lang/Object"), k9, (Own.tab 8 (fun _ => .null)))) :: (a1, .inr ((.object "java/lang/String"), k2, (Own.tN 8 (fun _ => false) sf))) :: (t, o_NV (.ref a1) (.ref a8) (.ref a15) (.int ((0 : Nat).toInt32))) :: (na, .inr ((.object "java/lang/String"), kn, (Own.tN 4 Hf sf))) :: (va, .inr ((.object "java/lang/Object"), kv, (Own.tab 4 Vf))) :: (fr ++ tl)) := H22.pull 6 _ rfl rfl
  have H24 : Own.HS Z h21 ((va, .inr ((.object "java/lang/Object"), kv, (Own.tab 4 Vf))) :: (oa, .inr (.int, ko, (Own.tO 4 og))) :: (a15, .inr (.int, k16, (Own.tO 8 (fun _ => 0)))) :: (a8, .inr ((.object "java/lang/Object"), k9, (Own.tab 8 (fun _ => .null)))) :: (a1, .inr ((.object "java/lang/String"), k2, (Own.tN 8 (fun _ => false) sf))) :: (t, o_NV (.ref a1) (.ref a8) (.ref a15) (.int ((0 : Nat).toInt32))) :: (na, .inr ((.object "java/lang/String"), kn, (Own.tN 4 Hf sf))) :: (fr ++ tl)) := H23.pull 6 _ rfl rfl
  have H25 : Own.HS Z h21 ((na, .inr ((.object "java/lang/String"), kn, (Own.tN 4 Hf sf))) :: (va, .inr ((.object "java/lang/Object"), kv, (Own.tab 4 Vf))) :: (oa, .inr (.int, ko, (Own.tO 4 og))) :: (a15, .inr (.int, k16, (Own.tO 8 (fun _ => 0)))) :: (a8, .inr ((.object "java/lang/Object"), k9, (Own.tab 8 (fun _ => .null)))) :: (a1, .inr ((.object "java/lang/String"), k2, (Own.tN 8 (fun _ => false) sf))) :: (t, o_NV (.ref a1) (.ref a8) (.ref a15) (.int ((0 : Nat).toInt32))) :: (fr ++ tl)) := H24.pull 6 _ rfl rfl
  have H26 : Own.HS Z h21 ((a15, .inr (.int, k16, (Own.tO 8 (fun _ => 0)))) :: (na, .inr ((.object "java/lang/String"), kn, (Own.tN 4 Hf sf))) :: (va, .inr ((.object "java/lang/Object"), kv, (Own.tab 4 Vf))) :: (oa, .inr (.int, ko, (Own.tO 4 og))) :: (a8, .inr ((.object "java/lang/Object"), k9, (Own.tab 8 (fun _ => .null)))) :: (a1, .inr ((.object "java/lang/String"), k2, (Own.tN 8 (fun _ => false) sf))) :: (t, o_NV (.ref a1) (.ref a8) (.ref a15) (.int ((0 : Nat).toInt32))) :: (fr ++ tl)) := H25.pull 3 _ rfl rfl
  have H27 : Own.HS Z h21 ((a8, .inr ((.object "java/lang/Object"), k9, (Own.tab 8 (fun _ => .null)))) :: (a15, .inr (.int, k16, (Own.tO 8 (fun _ => 0)))) :: (na, .inr ((.object "java/lang/String"), kn, (Own.tN 4 Hf sf))) :: (va, .inr ((.object "java/lang/Object"), kv, (Own.tab 4 Vf))) :: (oa, .inr (.int, ko, (Own.tO 4 og))) :: (a1, .inr ((.object "java/lang/String"), k2, (Own.tN 8 (fun _ => false) sf))) :: (t, o_NV (.ref a1) (.ref a8) (.ref a15) (.int ((0 : Nat).toInt32))) :: (fr ++ tl)) := H26.pull 4 _ rfl rfl
  have H28 : Own.HS Z h21 ((a1, .inr ((.object "java/lang/String"), k2, (Own.tN 8 (fun _ => false) sf))) :: (a8, .inr ((.object "java/lang/Object"), k9, (Own.tab 8 (fun _ => .null)))) :: (a15, .inr (.int, k16, (Own.tO 8 (fun _ => 0)))) :: (na, .inr ((.object "java/lang/String"), kn, (Own.tN 4 Hf sf))) :: (va, .inr ((.object "java/lang/Object"), kv, (Own.tab 4 Vf))) :: (oa, .inr (.int, ko, (Own.tO 4 og))) :: (t, o_NV (.ref a1) (.ref a8) (.ref a15) (.int ((0 : Nat).toInt32))) :: (fr ++ tl)) := H27.pull 5 _ rfl rfl
  have H29 : Own.HS Z h21 ((t, o_NV (.ref a1) (.ref a8) (.ref a15) (.int ((0 : Nat).toInt32))) :: (a1, .inr ((.object "java/lang/String"), k2, (Own.tN 8 (fun _ => false) sf))) :: (a8, .inr ((.object "java/lang/Object"), k9, (Own.tab 8 (fun _ => .null)))) :: (a15, .inr (.int, k16, (Own.tO 8 (fun _ => 0)))) :: (na, .inr ((.object "java/lang/String"), kn, (Own.tN 4 Hf sf))) :: (va, .inr ((.object "java/lang/Object"), kv, (Own.tab 4 Vf))) :: (oa, .inr (.int, ko, (Own.tO 4 og))) :: (fr ++ tl)) := H28.pull 6 _ rfl rfl
  have H30 : Own.HS Z h21 ((a15, .inr (.int, k16, (Own.tO 8 (fun _ => 0)))) :: (t, o_NV (.ref a1) (.ref a8) (.ref a15) (.int ((0 : Nat).toInt32))) :: (a1, .inr ((.object "java/lang/String"), k2, (Own.tN 8 (fun _ => false) sf))) :: (a8, .inr ((.object "java/lang/Object"), k9, (Own.tab 8 (fun _ => .null)))) :: (na, .inr ((.object "java/lang/String"), kn, (Own.tN 4 Hf sf))) :: (va, .inr ((.object "java/lang/Object"), kv, (Own.tab 4 Vf))) :: (oa, .inr (.int, ko, (Own.tO 4 og))) :: (fr ++ tl)) := H29.pull 3 _ rfl rfl
  have H31 : Own.HS Z h21 ((a8, .inr ((.object "java/lang/Object"), k9, (Own.tab 8 (fun _ => .null)))) :: (a15, .inr (.int, k16, (Own.tO 8 (fun _ => 0)))) :: (t, o_NV (.ref a1) (.ref a8) (.ref a15) (.int ((0 : Nat).toInt32))) :: (a1, .inr ((.object "java/lang/String"), k2, (Own.tN 8 (fun _ => false) sf))) :: (na, .inr ((.object "java/lang/String"), kn, (Own.tN 4 Hf sf))) :: (va, .inr ((.object "java/lang/Object"), kv, (Own.tab 4 Vf))) :: (oa, .inr (.int, ko, (Own.tO 4 og))) :: (fr ++ tl)) := H30.pull 3 _ rfl rfl
  have H32 : Own.HS Z h21 ((a1, .inr ((.object "java/lang/String"), k2, (Own.tN 8 (fun _ => false) sf))) :: (a8, .inr ((.object "java/lang/Object"), k9, (Own.tab 8 (fun _ => .null)))) :: (a15, .inr (.int, k16, (Own.tO 8 (fun _ => 0)))) :: (t, o_NV (.ref a1) (.ref a8) (.ref a15) (.int ((0 : Nat).toInt32))) :: (na, .inr ((.object "java/lang/String"), kn, (Own.tN 4 Hf sf))) :: (va, .inr ((.object "java/lang/Object"), kv, (Own.tab 4 Vf))) :: (oa, .inr (.int, ko, (Own.tO 4 og))) :: (fr ++ tl)) := H31.pull 3 _ rfl rfl
  have H33 : Own.HS Z h21 ((t, o_NV (.ref a1) (.ref a8) (.ref a15) (.int ((0 : Nat).toInt32))) :: (a1, .inr ((.object "java/lang/String"), k2, (Own.tN 8 (fun _ => false) sf))) :: (a8, .inr ((.object "java/lang/Object"), k9, (Own.tab 8 (fun _ => .null)))) :: (a15, .inr (.int, k16, (Own.tO 8 (fun _ => 0)))) :: (na, .inr ((.object "java/lang/String"), kn, (Own.tN 4 Hf sf))) :: (va, .inr ((.object "java/lang/Object"), kv, (Own.tab 4 Vf))) :: (oa, .inr (.int, ko, (Own.tO 4 og))) :: (fr ++ tl)) := H32.pull 3 _ rfl rfl
  refine Own.W.callV ok tb (a := t) (argsL := [(.ref (sf (og 0))), (Vf (og 0))]) (rest := []) 141 77 79 78 80 36 rfl rfl rfl rfl rfl rfl (notFace_of_selects (args := #[]) (mvT ok.2.1 (tb _ (List.mem_of_getElem? (i := 79) rfl)))) (H33.exa (i := 0) rfl) d_prog_12_method_11_85 pd_8 (c_putA l tb t a1 a8 a15 k2 k9 k16 8 (fun _ => 0) (fun _ => false) (fun _ => .null) sf (fun _ => 0) [] 0 (sf (og 0)) (Kf (og 0)) c0 (Vf (og 0)) ((na, .inr ((.object "java/lang/String"), kn, (Own.tN 4 Hf sf))) :: (va, .inr ((.object "java/lang/Object"), kv, (Own.tab 4 Vf))) :: (oa, .inr (.int, ko, (Own.tO 4 og))) :: fr) tl h21 ((na, .inr ((.object "java/lang/String"), kn, (Own.tN 4 Hf sf))) :: (va, .inr ((.object "java/lang/Object"), kv, (Own.tab 4 Vf))) :: (oa, .inr (.int, ko, (Own.tO 4 og))) :: (fr ++ tl)) H33 rfl SC hc0 ⟨Own.NT.zero (Or.inr (Or.inl rfl)), rfl, by decide, fun _ => Or.inl rfl, fun _ q => (by cases q), O5, O12⟩ (by omega) ((Own.Mono.refl (Z := Z) (tl := tl)).1 _ _ (hS _ r0.2.1)) ((Own.Mono.refl (Z := Z) (tl := tl)).vok (hV _))) 0 3 20 88 ?_
  rintro _ h34 ⟨u36, na37, va38, oa39, kn40, kv41, ko42, K43, H44, V45, s46, o47, z48, tl49, rfl, H35, hq50, hq51, hq52, hq53⟩
  show Own.W l Z _ K _ h34 3 20 88 #[.val (.ref t), .val (.ref na), .val (.ref va), .val (.ref oa), .val (.int (2 : Int32)), .val (.int (0 : Int32))] [u36]
  have H54 : Own.HS Z h34 ((t, o_NV (.ref na37) (.ref va38) (.ref oa39) (.int (z48.toInt32))) :: (na37, .inr ((.object "java/lang/String"), kn40, (Own.tN 8 H44 s46))) :: (va38, .inr ((.object "java/lang/Object"), kv41, (Own.tab 8 V45))) :: (oa39, .inr (.int, ko42, (Own.tO 8 o47))) :: (na, .inr ((.object "java/lang/String"), kn, (Own.tN 4 Hf sf))) :: (va, .inr ((.object "java/lang/Object"), kv, (Own.tab 4 Vf))) :: (oa, .inr (.int, ko, (Own.tO 4 og))) :: (fr ++ tl49)) := H35
  refine Own.W.pop ok d_prog_12_method_11_88 89 (Own.cat_of hq50) ?_
  refine Own.W.iinc ok d_prog_12_method_11_89 92 (1 : Int32) #[.val (.ref t), .val (.ref na), .val (.ref va), .val (.ref oa), .val (.int (2 : Int32)), .val (.int (1 : Int32))] rfl (by decide) rfl ?_
  refine Own.W.goto ok d_prog_12_method_11_92 65 ?_
  refine Own.W.iload ok d_prog_12_method_11_65 67 rfl ?_
  refine Own.W.iload ok d_prog_12_method_11_67 69 rfl ?_
  refine Own.W.icmpF ok d_prog_12_method_11_69 72 (by decide : (1 : Int32) < (2 : Int32)) ?_
  refine Own.W.aloadN ok d_prog_12_method_11_72 73 rfl rfl ?_
  refine Own.W.aloadN ok d_prog_12_method_11_73 74 rfl rfl ?_
  refine Own.W.aloadN ok d_prog_12_method_11_74 75 rfl rfl ?_
  refine Own.W.iload ok d_prog_12_method_11_75 77 rfl ?_
  refine Own.W.iald ok H54 (i := 6) rfl (by decide) (show _ = some (Value.int (og 1).toInt32) from Own.getO (i := 1) (Or.inl rfl) (by decide)) d_prog_12_method_11_77 78 ?_
  refine Own.W.aald ok H54 (i := 4) rfl (Own.nng (Or.inl rfl) r1.1) (show _ = some (Value.ref (sf (og 1))) from Own.getN (Or.inl rfl) r1.1 r1.2.1) d_prog_12_method_11_78 79 ?_
  refine Own.W.aloadN ok d_prog_12_method_11_79 80 rfl rfl ?_
  refine Own.W.aloadN ok d_prog_12_method_11_80 81 rfl rfl ?_
  refine Own.W.iload ok d_prog_12_method_11_81 83 rfl ?_
  refine Own.W.iald ok H54 (i := 6) rfl (by decide) (show _ = some (Value.int (og 1).toInt32) from Own.getO (i := 1) (Or.inl rfl) (by decide)) d_prog_12_method_11_83 84 ?_
  refine Own.W.aald ok H54 (i := 5) rfl (Own.nng (Or.inl rfl) r1.1) (Own.getV (Or.inl rfl) r1.1) d_prog_12_method_11_84 85 ?_
  have H55 : Own.HS Z h34 ((oa, .inr (.int, ko, (Own.tO 4 og))) :: (t, o_NV (.ref na37) (.ref va38) (.ref oa39) (.int (z48.toInt32))) :: (na37, .inr ((.object "java/lang/String"), kn40, (Own.tN 8 H44 s46))) :: (va38, .inr ((.object "java/lang/Object"), kv41, (Own.tab 8 V45))) :: (oa39, .inr (.int, ko42, (Own.tO 8 o47))) :: (na, .inr ((.object "java/lang/String"), kn, (Own.tN 4 Hf sf))) :: (va, .inr ((.object "java/lang/Object"), kv, (Own.tab 4 Vf))) :: (fr ++ tl49)) := H54.pull 6 _ rfl rfl
  have H56 : Own.HS Z h34 ((va, .inr ((.object "java/lang/Object"), kv, (Own.tab 4 Vf))) :: (oa, .inr (.int, ko, (Own.tO 4 og))) :: (t, o_NV (.ref na37) (.ref va38) (.ref oa39) (.int (z48.toInt32))) :: (na37, .inr ((.object "java/lang/String"), kn40, (Own.tN 8 H44 s46))) :: (va38, .inr ((.object "java/lang/Object"), kv41, (Own.tab 8 V45))) :: (oa39, .inr (.int, ko42, (Own.tO 8 o47))) :: (na, .inr ((.object "java/lang/String"), kn, (Own.tN 4 Hf sf))) :: (fr ++ tl49)) := H55.pull 6 _ rfl rfl
  have H57 : Own.HS Z h34 ((na, .inr ((.object "java/lang/String"), kn, (Own.tN 4 Hf sf))) :: (va, .inr ((.object "java/lang/Object"), kv, (Own.tab 4 Vf))) :: (oa, .inr (.int, ko, (Own.tO 4 og))) :: (t, o_NV (.ref na37) (.ref va38) (.ref oa39) (.int (z48.toInt32))) :: (na37, .inr ((.object "java/lang/String"), kn40, (Own.tN 8 H44 s46))) :: (va38, .inr ((.object "java/lang/Object"), kv41, (Own.tab 8 V45))) :: (oa39, .inr (.int, ko42, (Own.tO 8 o47))) :: (fr ++ tl49)) := H56.pull 6 _ rfl rfl
  have H58 : Own.HS Z h34 ((oa39, .inr (.int, ko42, (Own.tO 8 o47))) :: (na, .inr ((.object "java/lang/String"), kn, (Own.tN 4 Hf sf))) :: (va, .inr ((.object "java/lang/Object"), kv, (Own.tab 4 Vf))) :: (oa, .inr (.int, ko, (Own.tO 4 og))) :: (t, o_NV (.ref na37) (.ref va38) (.ref oa39) (.int (z48.toInt32))) :: (na37, .inr ((.object "java/lang/String"), kn40, (Own.tN 8 H44 s46))) :: (va38, .inr ((.object "java/lang/Object"), kv41, (Own.tab 8 V45))) :: (fr ++ tl49)) := H57.pull 6 _ rfl rfl
  have H59 : Own.HS Z h34 ((va38, .inr ((.object "java/lang/Object"), kv41, (Own.tab 8 V45))) :: (oa39, .inr (.int, ko42, (Own.tO 8 o47))) :: (na, .inr ((.object "java/lang/String"), kn, (Own.tN 4 Hf sf))) :: (va, .inr ((.object "java/lang/Object"), kv, (Own.tab 4 Vf))) :: (oa, .inr (.int, ko, (Own.tO 4 og))) :: (t, o_NV (.ref na37) (.ref va38) (.ref oa39) (.int (z48.toInt32))) :: (na37, .inr ((.object "java/lang/String"), kn40, (Own.tN 8 H44 s46))) :: (fr ++ tl49)) := H58.pull 6 _ rfl rfl
  have H60 : Own.HS Z h34 ((na37, .inr ((.object "java/lang/String"), kn40, (Own.tN 8 H44 s46))) :: (va38, .inr ((.object "java/lang/Object"), kv41, (Own.tab 8 V45))) :: (oa39, .inr (.int, ko42, (Own.tO 8 o47))) :: (na, .inr ((.object "java/lang/String"), kn, (Own.tN 4 Hf sf))) :: (va, .inr ((.object "java/lang/Object"), kv, (Own.tab 4 Vf))) :: (oa, .inr (.int, ko, (Own.tO 4 og))) :: (t, o_NV (.ref na37) (.ref va38) (.ref oa39) (.int (z48.toInt32))) :: (fr ++ tl49)) := H59.pull 6 _ rfl rfl
  have H61 : Own.HS Z h34 ((t, o_NV (.ref na37) (.ref va38) (.ref oa39) (.int (z48.toInt32))) :: (na37, .inr ((.object "java/lang/String"), kn40, (Own.tN 8 H44 s46))) :: (va38, .inr ((.object "java/lang/Object"), kv41, (Own.tab 8 V45))) :: (oa39, .inr (.int, ko42, (Own.tO 8 o47))) :: (na, .inr ((.object "java/lang/String"), kn, (Own.tN 4 Hf sf))) :: (va, .inr ((.object "java/lang/Object"), kv, (Own.tab 4 Vf))) :: (oa, .inr (.int, ko, (Own.tO 4 og))) :: (fr ++ tl49)) := H60.pull 6 _ rfl rfl
  have H62 : Own.HS Z h34 ((oa39, .inr (.int, ko42, (Own.tO 8 o47))) :: (t, o_NV (.ref na37) (.ref va38) (.ref oa39) (.int (z48.toInt32))) :: (na37, .inr ((.object "java/lang/String"), kn40, (Own.tN 8 H44 s46))) :: (va38, .inr ((.object "java/lang/Object"), kv41, (Own.tab 8 V45))) :: (na, .inr ((.object "java/lang/String"), kn, (Own.tN 4 Hf sf))) :: (va, .inr ((.object "java/lang/Object"), kv, (Own.tab 4 Vf))) :: (oa, .inr (.int, ko, (Own.tO 4 og))) :: (fr ++ tl49)) := H61.pull 3 _ rfl rfl
  have H63 : Own.HS Z h34 ((va38, .inr ((.object "java/lang/Object"), kv41, (Own.tab 8 V45))) :: (oa39, .inr (.int, ko42, (Own.tO 8 o47))) :: (t, o_NV (.ref na37) (.ref va38) (.ref oa39) (.int (z48.toInt32))) :: (na37, .inr ((.object "java/lang/String"), kn40, (Own.tN 8 H44 s46))) :: (na, .inr ((.object "java/lang/String"), kn, (Own.tN 4 Hf sf))) :: (va, .inr ((.object "java/lang/Object"), kv, (Own.tab 4 Vf))) :: (oa, .inr (.int, ko, (Own.tO 4 og))) :: (fr ++ tl49)) := H62.pull 3 _ rfl rfl
  have H64 : Own.HS Z h34 ((na37, .inr ((.object "java/lang/String"), kn40, (Own.tN 8 H44 s46))) :: (va38, .inr ((.object "java/lang/Object"), kv41, (Own.tab 8 V45))) :: (oa39, .inr (.int, ko42, (Own.tO 8 o47))) :: (t, o_NV (.ref na37) (.ref va38) (.ref oa39) (.int (z48.toInt32))) :: (na, .inr ((.object "java/lang/String"), kn, (Own.tN 4 Hf sf))) :: (va, .inr ((.object "java/lang/Object"), kv, (Own.tab 4 Vf))) :: (oa, .inr (.int, ko, (Own.tO 4 og))) :: (fr ++ tl49)) := H63.pull 3 _ rfl rfl
  have H65 : Own.HS Z h34 ((t, o_NV (.ref na37) (.ref va38) (.ref oa39) (.int (z48.toInt32))) :: (na37, .inr ((.object "java/lang/String"), kn40, (Own.tN 8 H44 s46))) :: (va38, .inr ((.object "java/lang/Object"), kv41, (Own.tab 8 V45))) :: (oa39, .inr (.int, ko42, (Own.tO 8 o47))) :: (na, .inr ((.object "java/lang/String"), kn, (Own.tN 4 Hf sf))) :: (va, .inr ((.object "java/lang/Object"), kv, (Own.tab 4 Vf))) :: (oa, .inr (.int, ko, (Own.tO 4 og))) :: (fr ++ tl49)) := H64.pull 3 _ rfl rfl
  refine Own.W.callV ok tb (a := t) (argsL := [(.ref (sf (og 1))), (Vf (og 1))]) (rest := []) 141 77 79 78 80 36 rfl rfl rfl rfl rfl rfl (notFace_of_selects (args := #[]) (mvT ok.2.1 (tb _ (List.mem_of_getElem? (i := 79) rfl)))) (H65.exa (i := 0) rfl) d_prog_12_method_11_85 pd_8 (c_putA l tb t na37 va38 oa39 kn40 kv41 ko42 8 K43 H44 V45 s46 o47 (Own.updL [] (Kf (og 0)) (Vf (og 0))) z48 (sf (og 1)) (Kf (og 1)) c0 (Vf (og 1)) ((na, .inr ((.object "java/lang/String"), kn, (Own.tN 4 Hf sf))) :: (va, .inr ((.object "java/lang/Object"), kv, (Own.tab 4 Vf))) :: (oa, .inr (.int, ko, (Own.tO 4 og))) :: fr) tl49 h34 ((na, .inr ((.object "java/lang/String"), kn, (Own.tN 4 Hf sf))) :: (va, .inr ((.object "java/lang/Object"), kv, (Own.tab 4 Vf))) :: (oa, .inr (.int, ko, (Own.tO 4 og))) :: (fr ++ tl49)) H65 rfl SC hc0 hq51 (by have := hq53; omega) (((Own.Mono.refl (Z := Z) (tl := tl)).trans hq52).1 _ _ (hS _ r1.2.1)) (((Own.Mono.refl (Z := Z) (tl := tl)).trans hq52).vok (hV _))) 0 3 20 88 ?_
  rintro _ h66 ⟨u68, na69, va70, oa71, kn72, kv73, ko74, K75, H76, V77, s78, o79, z80, tl81, rfl, H67, hq82, hq83, hq84, hq85⟩
  show Own.W l Z _ K _ h66 3 20 88 #[.val (.ref t), .val (.ref na), .val (.ref va), .val (.ref oa), .val (.int (2 : Int32)), .val (.int (1 : Int32))] [u68]
  have H86 : Own.HS Z h66 ((t, o_NV (.ref na69) (.ref va70) (.ref oa71) (.int (z80.toInt32))) :: (na69, .inr ((.object "java/lang/String"), kn72, (Own.tN 8 H76 s78))) :: (va70, .inr ((.object "java/lang/Object"), kv73, (Own.tab 8 V77))) :: (oa71, .inr (.int, ko74, (Own.tO 8 o79))) :: (na, .inr ((.object "java/lang/String"), kn, (Own.tN 4 Hf sf))) :: (va, .inr ((.object "java/lang/Object"), kv, (Own.tab 4 Vf))) :: (oa, .inr (.int, ko, (Own.tO 4 og))) :: (fr ++ tl81)) := H67
  refine Own.W.pop ok d_prog_12_method_11_88 89 (Own.cat_of hq82) ?_
  refine Own.W.iinc ok d_prog_12_method_11_89 92 (2 : Int32) #[.val (.ref t), .val (.ref na), .val (.ref va), .val (.ref oa), .val (.int (2 : Int32)), .val (.int (2 : Int32))] rfl (by decide) rfl ?_
  refine Own.W.goto ok d_prog_12_method_11_92 65 ?_
  refine Own.W.iload ok d_prog_12_method_11_65 67 rfl ?_
  refine Own.W.iload ok d_prog_12_method_11_67 69 rfl ?_
  refine Own.W.icmpT ok d_prog_12_method_11_69 95 (by decide : ¬ ((2 : Int32) < (2 : Int32))) ?_
  exact Own.W.vret ok d_prog_12_method_11_95 ⟨na69, va70, oa71, kn72, kv73, ko74, K75, H76, V77, s78, o79, z80, tl81, rfl, (((((H86.pull 3 ((oa71, .inr (.int, ko74, (Own.tO 8 o79))) :: (t, o_NV (.ref na69) (.ref va70) (.ref oa71) (.int (z80.toInt32))) :: (na69, .inr ((.object "java/lang/String"), kn72, (Own.tN 8 H76 s78))) :: (va70, .inr ((.object "java/lang/Object"), kv73, (Own.tab 8 V77))) :: (na, .inr ((.object "java/lang/String"), kn, (Own.tN 4 Hf sf))) :: (va, .inr ((.object "java/lang/Object"), kv, (Own.tab 4 Vf))) :: (oa, .inr (.int, ko, (Own.tO 4 og))) :: (fr ++ tl81)) rfl rfl).pull 3 ((va70, .inr ((.object "java/lang/Object"), kv73, (Own.tab 8 V77))) :: (oa71, .inr (.int, ko74, (Own.tO 8 o79))) :: (t, o_NV (.ref na69) (.ref va70) (.ref oa71) (.int (z80.toInt32))) :: (na69, .inr ((.object "java/lang/String"), kn72, (Own.tN 8 H76 s78))) :: (na, .inr ((.object "java/lang/String"), kn, (Own.tN 4 Hf sf))) :: (va, .inr ((.object "java/lang/Object"), kv, (Own.tab 4 Vf))) :: (oa, .inr (.int, ko, (Own.tO 4 og))) :: (fr ++ tl81)) rfl rfl).pull 3 ((na69, .inr ((.object "java/lang/String"), kn72, (Own.tN 8 H76 s78))) :: (va70, .inr ((.object "java/lang/Object"), kv73, (Own.tab 8 V77))) :: (oa71, .inr (.int, ko74, (Own.tO 8 o79))) :: (t, o_NV (.ref na69) (.ref va70) (.ref oa71) (.int (z80.toInt32))) :: (na, .inr ((.object "java/lang/String"), kn, (Own.tN 4 Hf sf))) :: (va, .inr ((.object "java/lang/Object"), kv, (Own.tab 4 Vf))) :: (oa, .inr (.int, ko, (Own.tO 4 og))) :: (fr ++ tl81)) rfl rfl).pull 3 ((t, o_NV (.ref na69) (.ref va70) (.ref oa71) (.int (z80.toInt32))) :: (na69, .inr ((.object "java/lang/String"), kn72, (Own.tN 8 H76 s78))) :: (va70, .inr ((.object "java/lang/Object"), kv73, (Own.tab 8 V77))) :: (oa71, .inr (.int, ko74, (Own.tO 8 o79))) :: (na, .inr ((.object "java/lang/String"), kn, (Own.tN 4 Hf sf))) :: (va, .inr ((.object "java/lang/Object"), kv, (Own.tab 4 Vf))) :: (oa, .inr (.int, ko, (Own.tO 4 og))) :: (fr ++ tl81)) rfl rfl).drop (List.Sublist.cons_cons _ (List.Sublist.cons_cons _ (List.Sublist.cons_cons _ (List.Sublist.cons_cons _ (List.Sublist.cons _ (List.Sublist.cons _ (List.Sublist.cons _ (List.Sublist.refl _))))))))), Own.updL2 T.2.2.2.1 T.2.2.2.2 el ▸ hq83, (((Own.Mono.refl (Z := Z) (tl := tl)).trans hq52).trans hq84)⟩
set_option maxRecDepth 65536 in
set_option maxHeartbeats 4000000 in
theorem c_grow8 (l : Launch) {Z : State} {a0 : Array Value} (tb : Own.Tb Z a0 tables_1) (t : Addr) (na : Addr) (va : Addr) (oa : Addr) (kn : ClassId) (kv : ClassId) (ko : ClassId) (Kf : Nat → Int32) (Hf : Nat → Bool) (Vf : Nat → Value) (sf : Nat → Addr) (og : Nat → Nat) (es : List (Int32 × Value)) (c0 : Int32) (fr : List (Addr × Own.Pc)) (tl : List (Addr × Own.Pc)) (h : Heap) (cs : List (Addr × Own.Pc)) (H : Own.HS Z h ((t, o_NV (.ref na) (.ref va) (.ref oa) (.int (4 : Int32))) :: (na, .inr ((.object "java/lang/String"), kn, (Own.tN 8 Hf sf))) :: (va, .inr ((.object "java/lang/Object"), kv, (Own.tab 8 Vf))) :: (oa, .inr (.int, ko, (Own.tO 8 og))) :: cs)) (ecs : cs = fr ++ tl) (SC : Sta Z Z.heap "java/lang/String" "COMPACT_STRINGS" "Z" (.int c0)) (hc0 : ¬ (c0 = (0 : Int32))) (T : Own.NT 8 Kf Hf Vf og es) (el : es.length = 4) (hV : ∀ j, Own.VOK Z tl (Vf j)) (hS : ∀ j, Hf j = true → Own.SOK tl (sf j) (Kf j)) :
    Own.Con l Z (⟨"com/example/vestwright/vestwright/NamedValues", "grow", "()V"⟩ : MethodName) prog_12_method_11_code 6 none ({ frames := 3, cells := 3, slots := 40, locals := 64 } : Room) #[(.ref t)] h (fun rr h' => ∃ (na2 : Addr) (va2 : Addr) (oa2 : Addr) (kn2 : ClassId) (kv2 : ClassId) (ko2 : ClassId) (K2 : Nat → Int32) (H2 : Nat → Bool) (V2 : Nat → Value) (s2 : Nat → Addr) (o2 : Nat → Nat) (z2 : Nat) (tl2 : List (Addr × Own.Pc)), rr = none ∧ Own.HS Z h' ((t, o_NV (.ref na2) (.ref va2) (.ref oa2) (.int (z2.toInt32))) :: (na2, .inr ((.object "java/lang/String"), kn2, (Own.tN 16 H2 s2))) :: (va2, .inr ((.object "java/lang/Object"), kv2, (Own.tab 16 V2))) :: (oa2, .inr (.int, ko2, (Own.tO 16 o2))) :: (fr ++ tl2)) ∧ Own.TS Z tl2 16 K2 H2 V2 s2 o2 es z2 kn2 kv2 ∧ Own.Mono Z tl tl2) := by
  refine Own.Con.of (plainFor_of_name (by first | (simp [plainName, overriddenIn]; done) | decide +kernel)) #[.val (.ref t), .unset, .unset, .unset, .unset, .unset] (fun m => by first | rfl | (simp [entryFrame, mkF, argsToLocals, Value.category, maxLocals]; done)) (fun K ok => ?_)
  subst ecs
  have r0 := T.2.2.2.1.1 0 (by omega)
  have r1 := T.2.2.2.1.1 1 (by omega)
  have r2 := T.2.2.2.1.1 2 (by omega)
  have r3 := T.2.2.2.1.1 3 (by omega)
  refine Own.W.aloadN ok d_prog_12_method_11_0 1 rfl rfl ?_
  refine Own.W.getF ok tb 61 rfl Via.refl (H.fld (i := 0) (j := 0) rfl rfl) d_prog_12_method_11_1 4 ?_
  refine Own.W.astoreN ok d_prog_12_method_11_4 5 #[.val (.ref t), .val (.ref na), .unset, .unset, .unset, .unset] rfl rfl ?_
  refine Own.W.aloadN ok d_prog_12_method_11_5 6 rfl rfl ?_
  refine Own.W.getF ok tb 65 rfl Via.refl (H.fld (i := 0) (j := 1) rfl rfl) d_prog_12_method_11_6 9 ?_
  refine Own.W.astoreN ok d_prog_12_method_11_9 10 #[.val (.ref t), .val (.ref na), .val (.ref va), .unset, .unset, .unset] rfl rfl ?_
  refine Own.W.aloadN ok d_prog_12_method_11_10 11 rfl rfl ?_
  refine Own.W.getF ok tb 68 rfl Via.refl (H.fld (i := 0) (j := 2) rfl rfl) d_prog_12_method_11_11 14 ?_
  refine Own.W.astoreN ok d_prog_12_method_11_14 15 #[.val (.ref t), .val (.ref na), .val (.ref va), .val (.ref oa), .unset, .unset] rfl rfl ?_
  refine Own.W.aloadN ok d_prog_12_method_11_15 16 rfl rfl ?_
  refine Own.W.getF ok tb 100 rfl Via.refl (H.fld (i := 0) (j := 3) rfl rfl) d_prog_12_method_11_16 19 ?_
  refine Own.W.istore ok d_prog_12_method_11_19 21 #[.val (.ref t), .val (.ref na), .val (.ref va), .val (.ref oa), .val (.int (4 : Int32)), .unset] rfl ?_
  refine Own.W.aloadN ok d_prog_12_method_11_21 22 rfl rfl ?_
  refine Own.W.aloadN ok d_prog_12_method_11_22 23 rfl rfl ?_
  refine Own.W.alen ok H (i := 1) rfl d_prog_12_method_11_23 24 (8 : Int32) (by rw [Own.lenN]; rfl) ?_
  refine Own.W.iconst ok d_prog_12_method_11_24 25 (2 : Int32) rfl ?_
  refine Own.W.imulV ok d_prog_12_method_11_25 26 (16 : Int32) (by decide) ?_
  refine Own.W.newR ok tb H 59 60 rfl rfl d_prog_12_method_11_26 16 (Own.tN 16 (fun _ => false) sf) rfl 1 16 29 (by decide) (by decide) (fun a1 k2 h3 O5 H4 => ?_)
  show Own.W l Z _ K _ h3 1 16 29 #[.val (.ref t), .val (.ref na), .val (.ref va), .val (.ref oa), .val (.int (4 : Int32)), .unset] [(.ref a1), (.ref t)]
  refine Own.W.putF ok tb H4 (i := 1) (j := 0) (ty := (.array (.object "java/lang/String"))) (w' := (.ref a1)) rfl rfl 61 35 rfl rfl Via.refl (Or.inl (tb _ (List.mem_of_getElem? (i := 62) rfl))) (Own.Lay.of (nw_NV tb) rfl) (by decide) rfl rfl d_prog_12_method_11_29 32 ((a1, .inr ((.object "java/lang/String"), k2, (Own.tN 16 (fun _ => false) sf))) :: (t, o_NV (.ref a1) (.ref va) (.ref oa) (.int (4 : Int32))) :: (na, .inr ((.object "java/lang/String"), kn, (Own.tN 8 Hf sf))) :: (va, .inr ((.object "java/lang/Object"), kv, (Own.tab 8 Vf))) :: (oa, .inr (.int, ko, (Own.tO 8 og))) :: (fr ++ tl)) rfl (fun h6 H7 => ?_)
  refine Own.W.aloadN ok d_prog_12_method_11_32 33 rfl rfl ?_
  refine Own.W.aloadN ok d_prog_12_method_11_33 34 rfl rfl ?_
  refine Own.W.getF ok tb 61 rfl Via.refl (H7.fld (i := 1) (j := 0) rfl rfl) d_prog_12_method_11_34 37 ?_
  refine Own.W.alen ok H7 (i := 0) rfl d_prog_12_method_11_37 38 (16 : Int32) (by rw [Own.lenN]; rfl) ?_
  refine Own.W.newR ok tb H7 63 64 rfl rfl d_prog_12_method_11_38 16 (Own.tab 16 (fun _ => .null)) rfl 2 32 41 (by decide) (by decide) (fun a8 k9 h10 O12 H11 => ?_)
  show Own.W l Z _ K _ h10 2 32 41 #[.val (.ref t), .val (.ref na), .val (.ref va), .val (.ref oa), .val (.int (4 : Int32)), .unset] [(.ref a8), (.ref t)]
  refine Own.W.putF ok tb H11 (i := 2) (j := 1) (ty := (.array (.object "java/lang/Object"))) (w' := (.ref a8)) rfl rfl 65 35 rfl rfl Via.refl (Or.inl (tb _ (List.mem_of_getElem? (i := 66) rfl))) (Own.Lay.of (nw_NV tb) rfl) (by decide) rfl rfl d_prog_12_method_11_41 44 ((a8, .inr ((.object "java/lang/Object"), k9, (Own.tab 16 (fun _ => .null)))) :: (a1, .inr ((.object "java/lang/String"), k2, (Own.tN 16 (fun _ => false) sf))) :: (t, o_NV (.ref a1) (.ref a8) (.ref oa) (.int (4 : Int32))) :: (na, .inr ((.object "java/lang/String"), kn, (Own.tN 8 Hf sf))) :: (va, .inr ((.object "java/lang/Object"), kv, (Own.tab 8 Vf))) :: (oa, .inr (.int, ko, (Own.tO 8 og))) :: (fr ++ tl)) rfl (fun h13 H14 => ?_)
  refine Own.W.aloadN ok d_prog_12_method_11_44 45 rfl rfl ?_
  refine Own.W.aloadN ok d_prog_12_method_11_45 46 rfl rfl ?_
  refine Own.W.getF ok tb 61 rfl Via.refl (H14.fld (i := 2) (j := 0) rfl rfl) d_prog_12_method_11_46 49 ?_
  refine Own.W.alen ok H14 (i := 1) rfl d_prog_12_method_11_49 50 (16 : Int32) (by rw [Own.lenN]; rfl) ?_
  refine Own.W.iconst ok d_prog_12_method_11_50 51 (2 : Int32) rfl ?_
  refine Own.W.idiv ok d_prog_12_method_11_51 52 (by decide) ?_
  refine Own.W.newP ok tb H14 67 rfl d_prog_12_method_11_52 8 (Own.tO 16 (fun _ => 0)) rfl 3 40 54 (by decide) (by decide) (fun a15 k16 h17 H18 => ?_)
  show Own.W l Z _ K _ h17 3 40 54 #[.val (.ref t), .val (.ref na), .val (.ref va), .val (.ref oa), .val (.int (4 : Int32)), .unset] [(.ref a15), (.ref t)]
  refine Own.W.putF ok tb H18 (i := 3) (j := 2) (ty := (.array .int)) (w' := (.ref a15)) rfl rfl 68 35 rfl rfl Via.refl (Or.inl (tb _ (List.mem_of_getElem? (i := 69) rfl))) (Own.Lay.of (nw_NV tb) rfl) (by decide) rfl rfl d_prog_12_method_11_54 57 ((a15, .inr (.int, k16, (Own.tO 16 (fun _ => 0)))) :: (a8, .inr ((.object "java/lang/Object"), k9, (Own.tab 16 (fun _ => .null)))) :: (a1, .inr ((.object "java/lang/String"), k2, (Own.tN 16 (fun _ => false) sf))) :: (t, o_NV (.ref a1) (.ref a8) (.ref a15) (.int (4 : Int32))) :: (na, .inr ((.object "java/lang/String"), kn, (Own.tN 8 Hf sf))) :: (va, .inr ((.object "java/lang/Object"), kv, (Own.tab 8 Vf))) :: (oa, .inr (.int, ko, (Own.tO 8 og))) :: (fr ++ tl)) rfl (fun h19 H20 => ?_)
  refine Own.W.aloadN ok d_prog_12_method_11_57 58 rfl rfl ?_
  refine Own.W.iconst ok d_prog_12_method_11_58 59 (0 : Int32) rfl ?_
  refine Own.W.putF ok tb H20 (i := 3) (j := 3) (ty := .int) (w' := (.int (0 : Int32))) rfl rfl 100 35 rfl rfl Via.refl (Or.inl (tb _ (List.mem_of_getElem? (i := 101) rfl))) (Own.Lay.of (nw_NV tb) rfl) (by decide) rfl rfl d_prog_12_method_11_59 62 ((a15, .inr (.int, k16, (Own.tO 16 (fun _ => 0)))) :: (a8, .inr ((.object "java/lang/Object"), k9, (Own.tab 16 (fun _ => .null)))) :: (a1, .inr ((.object "java/lang/String"), k2, (Own.tN 16 (fun _ => false) sf))) :: (t, o_NV (.ref a1) (.ref a8) (.ref a15) (.int (0 : Int32))) :: (na, .inr ((.object "java/lang/String"), kn, (Own.tN 8 Hf sf))) :: (va, .inr ((.object "java/lang/Object"), kv, (Own.tab 8 Vf))) :: (oa, .inr (.int, ko, (Own.tO 8 og))) :: (fr ++ tl)) rfl (fun h21 H22 => ?_)
  refine Own.W.iconst ok d_prog_12_method_11_62 63 (0 : Int32) rfl ?_
  refine Own.W.istore ok d_prog_12_method_11_63 65 #[.val (.ref t), .val (.ref na), .val (.ref va), .val (.ref oa), .val (.int (4 : Int32)), .val (.int (0 : Int32))] rfl ?_
  refine Own.W.iload ok d_prog_12_method_11_65 67 rfl ?_
  refine Own.W.iload ok d_prog_12_method_11_67 69 rfl ?_
  refine Own.W.icmpF ok d_prog_12_method_11_69 72 (by decide : (0 : Int32) < (4 : Int32)) ?_
  refine Own.W.aloadN ok d_prog_12_method_11_72 73 rfl rfl ?_
  refine Own.W.aloadN ok d_prog_12_method_11_73 74 rfl rfl ?_
  refine Own.W.aloadN ok d_prog_12_method_11_74 75 rfl rfl ?_
  refine Own.W.iload ok d_prog_12_method_11_75 77 rfl ?_
  refine Own.W.iald ok H22 (i := 6) rfl (by decide) (show _ = some (Value.int (og 0).toInt32) from Own.getO (i := 0) (Or.inr (Or.inl rfl)) (by decide)) d_prog_12_method_11_77 78 ?_
  refine Own.W.aald ok H22 (i := 4) rfl (Own.nng (Or.inr (Or.inl rfl)) r0.1) (show _ = some (Value.ref (sf (og 0))) from Own.getN (Or.inr (Or.inl rfl)) r0.1 r0.2.1) d_prog_12_method_11_78 79 ?_
  refine Own.W.aloadN ok d_prog_12_method_11_79 80 rfl rfl ?_
  refine Own.W.aloadN ok d_prog_12_method_11_80 81 rfl rfl ?_
  refine Own.W.iload ok d_prog_12_method_11_81 83 rfl ?_
  refine Own.W.iald ok H22 (i := 6) rfl (by decide) (show _ = some (Value.int (og 0).toInt32) from Own.getO (i := 0) (Or.inr (Or.inl rfl)) (by decide)) d_prog_12_method_11_83 84 ?_
  refine Own.W.aald ok H22 (i := 5) rfl (Own.nng (Or.inr (Or.inl rfl)) r0.1) (Own.getV (Or.inr (Or.inl rfl)) r0.1) d_prog_12_method_11_84 85 ?_
  have H23 : Own.HS Z h21 ((oa, .inr (.int, ko, (Own.tO 8 og))) :: (a15, .inr (.int, k16, (Own.tO 16 (fun _ => 0)))) :: (a8, .inr ((.object "java/lang/Object"), k9, (Own.tab 16 (fun _ => .null)))) :: (a1, .inr ((.object "java/lang/String"), k2, (Own.tN 16 (fun _ => false) sf))) :: (t, o_NV (.ref a1) (.ref a8) (.ref a15) (.int ((0 : Nat).toInt32))) :: (na, .inr ((.object "java/lang/String"), kn, (Own.tN 8 Hf sf))) :: (va, .inr ((.object "java/lang/Object"), kv, (Own.tab 8 Vf))) :: (fr ++ tl)) := H22.pull 6 _ rfl rfl
  have H24 : Own.HS Z h21 ((va, .inr ((.object "java/lang/Object"), kv, (Own.tab 8 Vf))) :: (oa, .inr (.int, ko, (Own.tO 8 og))) :: (a15, .inr (.int, k16, (Own.tO 16 (fun _ => 0)))) :: (a8, .inr ((.object "java/lang/Object"), k9, (Own.tab 16 (fun _ => .null)))) :: (a1, .inr ((.object "java/lang/String"), k2, (Own.tN 16 (fun _ => false) sf))) :: (t, o_NV (.ref a1) (.ref a8) (.ref a15) (.int ((0 : Nat).toInt32))) :: (na, .inr ((.object "java/lang/String"), kn, (Own.tN 8 Hf sf))) :: (fr ++ tl)) := H23.pull 6 _ rfl rfl
  have H25 : Own.HS Z h21 ((na, .inr ((.object "java/lang/String"), kn, (Own.tN 8 Hf sf))) :: (va, .inr ((.object "java/lang/Object"), kv, (Own.tab 8 Vf))) :: (oa, .inr (.int, ko, (Own.tO 8 og))) :: (a15, .inr (.int, k16, (Own.tO 16 (fun _ => 0)))) :: (a8, .inr ((.object "java/lang/Object"), k9, (Own.tab 16 (fun _ => .null)))) :: (a1, .inr ((.object "java/lang/String"), k2, (Own.tN 16 (fun _ => false) sf))) :: (t, o_NV (.ref a1) (.ref a8) (.ref a15) (.int ((0 : Nat).toInt32))) :: (fr ++ tl)) := H24.pull 6 _ rfl rfl
  have H26 : Own.HS Z h21 ((a15, .inr (.int, k16, (Own.tO 16 (fun _ => 0)))) :: (na, .inr ((.object "java/lang/String"), kn, (Own.tN 8 Hf sf))) :: (va, .inr ((.object "java/lang/Object"), kv, (Own.tab 8 Vf))) :: (oa, .inr (.int, ko, (Own.tO 8 og))) :: (a8, .inr ((.object "java/lang/Object"), k9, (Own.tab 16 (fun _ => .null)))) :: (a1, .inr ((.object "java/lang/String"), k2, (Own.tN 16 (fun _ => false) sf))) :: (t, o_NV (.ref a1) (.ref a8) (.ref a15) (.int ((0 : Nat).toInt32))) :: (fr ++ tl)) := H25.pull 3 _ rfl rfl
  have H27 : Own.HS Z h21 ((a8, .inr ((.object "java/lang/Object"), k9, (Own.tab 16 (fun _ => .null)))) :: (a15, .inr (.int, k16, (Own.tO 16 (fun _ => 0)))) :: (na, .inr ((.object "java/lang/String"), kn, (Own.tN 8 Hf sf))) :: (va, .inr ((.object "java/lang/Object"), kv, (Own.tab 8 Vf))) :: (oa, .inr (.int, ko, (Own.tO 8 og))) :: (a1, .inr ((.object "java/lang/String"), k2, (Own.tN 16 (fun _ => false) sf))) :: (t, o_NV (.ref a1) (.ref a8) (.ref a15) (.int ((0 : Nat).toInt32))) :: (fr ++ tl)) := H26.pull 4 _ rfl rfl
  have H28 : Own.HS Z h21 ((a1, .inr ((.object "java/lang/String"), k2, (Own.tN 16 (fun _ => false) sf))) :: (a8, .inr ((.object "java/lang/Object"), k9, (Own.tab 16 (fun _ => .null)))) :: (a15, .inr (.int, k16, (Own.tO 16 (fun _ => 0)))) :: (na, .inr ((.object "java/lang/String"), kn, (Own.tN 8 Hf sf))) :: (va, .inr ((.object "java/lang/Object"), kv, (Own.tab 8 Vf))) :: (oa, .inr (.int, ko, (Own.tO 8 og))) :: (t, o_NV (.ref a1) (.ref a8) (.ref a15) (.int ((0 : Nat).toInt32))) :: (fr ++ tl)) := H27.pull 5 _ rfl rfl
  have H29 : Own.HS Z h21 ((t, o_NV (.ref a1) (.ref a8) (.ref a15) (.int ((0 : Nat).toInt32))) :: (a1, .inr ((.object "java/lang/String"), k2, (Own.tN 16 (fun _ => false) sf))) :: (a8, .inr ((.object "java/lang/Object"), k9, (Own.tab 16 (fun _ => .null)))) :: (a15, .inr (.int, k16, (Own.tO 16 (fun _ => 0)))) :: (na, .inr ((.object "java/lang/String"), kn, (Own.tN 8 Hf sf))) :: (va, .inr ((.object "java/lang/Object"), kv, (Own.tab 8 Vf))) :: (oa, .inr (.int, ko, (Own.tO 8 og))) :: (fr ++ tl)) := H28.pull 6 _ rfl rfl
  have H30 : Own.HS Z h21 ((a15, .inr (.int, k16, (Own.tO 16 (fun _ => 0)))) :: (t, o_NV (.ref a1) (.ref a8) (.ref a15) (.int ((0 : Nat).toInt32))) :: (a1, .inr ((.object "java/lang/String"), k2, (Own.tN 16 (fun _ => false) sf))) :: (a8, .inr ((.object "java/lang/Object"), k9, (Own.tab 16 (fun _ => .null)))) :: (na, .inr ((.object "java/lang/String"), kn, (Own.tN 8 Hf sf))) :: (va, .inr ((.object "java/lang/Object"), kv, (Own.tab 8 Vf))) :: (oa, .inr (.int, ko, (Own.tO 8 og))) :: (fr ++ tl)) := H29.pull 3 _ rfl rfl
  have H31 : Own.HS Z h21 ((a8, .inr ((.object "java/lang/Object"), k9, (Own.tab 16 (fun _ => .null)))) :: (a15, .inr (.int, k16, (Own.tO 16 (fun _ => 0)))) :: (t, o_NV (.ref a1) (.ref a8) (.ref a15) (.int ((0 : Nat).toInt32))) :: (a1, .inr ((.object "java/lang/String"), k2, (Own.tN 16 (fun _ => false) sf))) :: (na, .inr ((.object "java/lang/String"), kn, (Own.tN 8 Hf sf))) :: (va, .inr ((.object "java/lang/Object"), kv, (Own.tab 8 Vf))) :: (oa, .inr (.int, ko, (Own.tO 8 og))) :: (fr ++ tl)) := H30.pull 3 _ rfl rfl
  have H32 : Own.HS Z h21 ((a1, .inr ((.object "java/lang/String"), k2, (Own.tN 16 (fun _ => false) sf))) :: (a8, .inr ((.object "java/lang/Object"), k9, (Own.tab 16 (fun _ => .null)))) :: (a15, .inr (.int, k16, (Own.tO 16 (fun _ => 0)))) :: (t, o_NV (.ref a1) (.ref a8) (.ref a15) (.int ((0 : Nat).toInt32))) :: (na, .inr ((.object "java/lang/String"), kn, (Own.tN 8 Hf sf))) :: (va, .inr ((.object "java/lang/Object"), kv, (Own.tab 8 Vf))) :: (oa, .inr (.int, ko, (Own.tO 8 og))) :: (fr ++ tl)) := H31.pull 3 _ rfl rfl
  have H33 : Own.HS Z h21 ((t, o_NV (.ref a1) (.ref a8) (.ref a15) (.int ((0 : Nat).toInt32))) :: (a1, .inr ((.object "java/lang/String"), k2, (Own.tN 16 (fun _ => false) sf))) :: (a8, .inr ((.object "java/lang/Object"), k9, (Own.tab 16 (fun _ => .null)))) :: (a15, .inr (.int, k16, (Own.tO 16 (fun _ => 0)))) :: (na, .inr ((.object "java/lang/String"), kn, (Own.tN 8 Hf sf))) :: (va, .inr ((.object "java/lang/Object"), kv, (Own.tab 8 Vf))) :: (oa, .inr (.int, ko, (Own.tO 8 og))) :: (fr ++ tl)) := H32.pull 3 _ rfl rfl
  refine Own.W.callV ok tb (a := t) (argsL := [(.ref (sf (og 0))), (Vf (og 0))]) (rest := []) 141 77 79 78 80 36 rfl rfl rfl rfl rfl rfl (notFace_of_selects (args := #[]) (mvT ok.2.1 (tb _ (List.mem_of_getElem? (i := 79) rfl)))) (H33.exa (i := 0) rfl) d_prog_12_method_11_85 pd_8 (c_putA l tb t a1 a8 a15 k2 k9 k16 16 (fun _ => 0) (fun _ => false) (fun _ => .null) sf (fun _ => 0) [] 0 (sf (og 0)) (Kf (og 0)) c0 (Vf (og 0)) ((na, .inr ((.object "java/lang/String"), kn, (Own.tN 8 Hf sf))) :: (va, .inr ((.object "java/lang/Object"), kv, (Own.tab 8 Vf))) :: (oa, .inr (.int, ko, (Own.tO 8 og))) :: fr) tl h21 ((na, .inr ((.object "java/lang/String"), kn, (Own.tN 8 Hf sf))) :: (va, .inr ((.object "java/lang/Object"), kv, (Own.tab 8 Vf))) :: (oa, .inr (.int, ko, (Own.tO 8 og))) :: (fr ++ tl)) H33 rfl SC hc0 ⟨Own.NT.zero (Or.inr (Or.inr rfl)), rfl, by decide, fun _ => Or.inl rfl, fun _ q => (by cases q), O5, O12⟩ (by omega) ((Own.Mono.refl (Z := Z) (tl := tl)).1 _ _ (hS _ r0.2.1)) ((Own.Mono.refl (Z := Z) (tl := tl)).vok (hV _))) 0 3 40 88 ?_
  rintro _ h34 ⟨u36, na37, va38, oa39, kn40, kv41, ko42, K43, H44, V45, s46, o47, z48, tl49, rfl, H35, hq50, hq51, hq52, hq53⟩
  show Own.W l Z _ K _ h34 3 40 88 #[.val (.ref t), .val (.ref na), .val (.ref va), .val (.ref oa), .val (.int (4 : Int32)), .val (.int (0 : Int32))] [u36]
  have H54 : Own.HS Z h34 ((t, o_NV (.ref na37) (.ref va38) (.ref oa39) (.int (z48.toInt32))) :: (na37, .inr ((.object "java/lang/String"), kn40, (Own.tN 16 H44 s46))) :: (va38, .inr ((.object "java/lang/Object"), kv41, (Own.tab 16 V45))) :: (oa39, .inr (.int, ko42, (Own.tO 16 o47))) :: (na, .inr ((.object "java/lang/String"), kn, (Own.tN 8 Hf sf))) :: (va, .inr ((.object "java/lang/Object"), kv, (Own.tab 8 Vf))) :: (oa, .inr (.int, ko, (Own.tO 8 og))) :: (fr ++ tl49)) := H35
  refine Own.W.pop ok d_prog_12_method_11_88 89 (Own.cat_of hq50) ?_
  refine Own.W.iinc ok d_prog_12_method_11_89 92 (1 : Int32) #[.val (.ref t), .val (.ref na), .val (.ref va), .val (.ref oa), .val (.int (4 : Int32)), .val (.int (1 : Int32))] rfl (by decide) rfl ?_
  refine Own.W.goto ok d_prog_12_method_11_92 65 ?_
  refine Own.W.iload ok d_prog_12_method_11_65 67 rfl ?_
  refine Own.W.iload ok d_prog_12_method_11_67 69 rfl ?_
  refine Own.W.icmpF ok d_prog_12_method_11_69 72 (by decide : (1 : Int32) < (4 : Int32)) ?_
  refine Own.W.aloadN ok d_prog_12_method_11_72 73 rfl rfl ?_
  refine Own.W.aloadN ok d_prog_12_method_11_73 74 rfl rfl ?_
  refine Own.W.aloadN ok d_prog_12_method_11_74 75 rfl rfl ?_
  refine Own.W.iload ok d_prog_12_method_11_75 77 rfl ?_
  refine Own.W.iald ok H54 (i := 6) rfl (by decide) (show _ = some (Value.int (og 1).toInt32) from Own.getO (i := 1) (Or.inr (Or.inl rfl)) (by decide)) d_prog_12_method_11_77 78 ?_
  refine Own.W.aald ok H54 (i := 4) rfl (Own.nng (Or.inr (Or.inl rfl)) r1.1) (show _ = some (Value.ref (sf (og 1))) from Own.getN (Or.inr (Or.inl rfl)) r1.1 r1.2.1) d_prog_12_method_11_78 79 ?_
  refine Own.W.aloadN ok d_prog_12_method_11_79 80 rfl rfl ?_
  refine Own.W.aloadN ok d_prog_12_method_11_80 81 rfl rfl ?_
  refine Own.W.iload ok d_prog_12_method_11_81 83 rfl ?_
  refine Own.W.iald ok H54 (i := 6) rfl (by decide) (show _ = some (Value.int (og 1).toInt32) from Own.getO (i := 1) (Or.inr (Or.inl rfl)) (by decide)) d_prog_12_method_11_83 84 ?_
  refine Own.W.aald ok H54 (i := 5) rfl (Own.nng (Or.inr (Or.inl rfl)) r1.1) (Own.getV (Or.inr (Or.inl rfl)) r1.1) d_prog_12_method_11_84 85 ?_
  have H55 : Own.HS Z h34 ((oa, .inr (.int, ko, (Own.tO 8 og))) :: (t, o_NV (.ref na37) (.ref va38) (.ref oa39) (.int (z48.toInt32))) :: (na37, .inr ((.object "java/lang/String"), kn40, (Own.tN 16 H44 s46))) :: (va38, .inr ((.object "java/lang/Object"), kv41, (Own.tab 16 V45))) :: (oa39, .inr (.int, ko42, (Own.tO 16 o47))) :: (na, .inr ((.object "java/lang/String"), kn, (Own.tN 8 Hf sf))) :: (va, .inr ((.object "java/lang/Object"), kv, (Own.tab 8 Vf))) :: (fr ++ tl49)) := H54.pull 6 _ rfl rfl
  have H56 : Own.HS Z h34 ((va, .inr ((.object "java/lang/Object"), kv, (Own.tab 8 Vf))) :: (oa, .inr (.int, ko, (Own.tO 8 og))) :: (t, o_NV (.ref na37) (.ref va38) (.ref oa39) (.int (z48.toInt32))) :: (na37, .inr ((.object "java/lang/String"), kn40, (Own.tN 16 H44 s46))) :: (va38, .inr ((.object "java/lang/Object"), kv41, (Own.tab 16 V45))) :: (oa39, .inr (.int, ko42, (Own.tO 16 o47))) :: (na, .inr ((.object "java/lang/String"), kn, (Own.tN 8 Hf sf))) :: (fr ++ tl49)) := H55.pull 6 _ rfl rfl
  have H57 : Own.HS Z h34 ((na, .inr ((.object "java/lang/String"), kn, (Own.tN 8 Hf sf))) :: (va, .inr ((.object "java/lang/Object"), kv, (Own.tab 8 Vf))) :: (oa, .inr (.int, ko, (Own.tO 8 og))) :: (t, o_NV (.ref na37) (.ref va38) (.ref oa39) (.int (z48.toInt32))) :: (na37, .inr ((.object "java/lang/String"), kn40, (Own.tN 16 H44 s46))) :: (va38, .inr ((.object "java/lang/Object"), kv41, (Own.tab 16 V45))) :: (oa39, .inr (.int, ko42, (Own.tO 16 o47))) :: (fr ++ tl49)) := H56.pull 6 _ rfl rfl
  have H58 : Own.HS Z h34 ((oa39, .inr (.int, ko42, (Own.tO 16 o47))) :: (na, .inr ((.object "java/lang/String"), kn, (Own.tN 8 Hf sf))) :: (va, .inr ((.object "java/lang/Object"), kv, (Own.tab 8 Vf))) :: (oa, .inr (.int, ko, (Own.tO 8 og))) :: (t, o_NV (.ref na37) (.ref va38) (.ref oa39) (.int (z48.toInt32))) :: (na37, .inr ((.object "java/lang/String"), kn40, (Own.tN 16 H44 s46))) :: (va38, .inr ((.object "java/lang/Object"), kv41, (Own.tab 16 V45))) :: (fr ++ tl49)) := H57.pull 6 _ rfl rfl
  have H59 : Own.HS Z h34 ((va38, .inr ((.object "java/lang/Object"), kv41, (Own.tab 16 V45))) :: (oa39, .inr (.int, ko42, (Own.tO 16 o47))) :: (na, .inr ((.object "java/lang/String"), kn, (Own.tN 8 Hf sf))) :: (va, .inr ((.object "java/lang/Object"), kv, (Own.tab 8 Vf))) :: (oa, .inr (.int, ko, (Own.tO 8 og))) :: (t, o_NV (.ref na37) (.ref va38) (.ref oa39) (.int (z48.toInt32))) :: (na37, .inr ((.object "java/lang/String"), kn40, (Own.tN 16 H44 s46))) :: (fr ++ tl49)) := H58.pull 6 _ rfl rfl
  have H60 : Own.HS Z h34 ((na37, .inr ((.object "java/lang/String"), kn40, (Own.tN 16 H44 s46))) :: (va38, .inr ((.object "java/lang/Object"), kv41, (Own.tab 16 V45))) :: (oa39, .inr (.int, ko42, (Own.tO 16 o47))) :: (na, .inr ((.object "java/lang/String"), kn, (Own.tN 8 Hf sf))) :: (va, .inr ((.object "java/lang/Object"), kv, (Own.tab 8 Vf))) :: (oa, .inr (.int, ko, (Own.tO 8 og))) :: (t, o_NV (.ref na37) (.ref va38) (.ref oa39) (.int (z48.toInt32))) :: (fr ++ tl49)) := H59.pull 6 _ rfl rfl
  have H61 : Own.HS Z h34 ((t, o_NV (.ref na37) (.ref va38) (.ref oa39) (.int (z48.toInt32))) :: (na37, .inr ((.object "java/lang/String"), kn40, (Own.tN 16 H44 s46))) :: (va38, .inr ((.object "java/lang/Object"), kv41, (Own.tab 16 V45))) :: (oa39, .inr (.int, ko42, (Own.tO 16 o47))) :: (na, .inr ((.object "java/lang/String"), kn, (Own.tN 8 Hf sf))) :: (va, .inr ((.object "java/lang/Object"), kv, (Own.tab 8 Vf))) :: (oa, .inr (.int, ko, (Own.tO 8 og))) :: (fr ++ tl49)) := H60.pull 6 _ rfl rfl
  have H62 : Own.HS Z h34 ((oa39, .inr (.int, ko42, (Own.tO 16 o47))) :: (t, o_NV (.ref na37) (.ref va38) (.ref oa39) (.int (z48.toInt32))) :: (na37, .inr ((.object "java/lang/String"), kn40, (Own.tN 16 H44 s46))) :: (va38, .inr ((.object "java/lang/Object"), kv41, (Own.tab 16 V45))) :: (na, .inr ((.object "java/lang/String"), kn, (Own.tN 8 Hf sf))) :: (va, .inr ((.object "java/lang/Object"), kv, (Own.tab 8 Vf))) :: (oa, .inr (.int, ko, (Own.tO 8 og))) :: (fr ++ tl49)) := H61.pull 3 _ rfl rfl
  have H63 : Own.HS Z h34 ((va38, .inr ((.object "java/lang/Object"), kv41, (Own.tab 16 V45))) :: (oa39, .inr (.int, ko42, (Own.tO 16 o47))) :: (t, o_NV (.ref na37) (.ref va38) (.ref oa39) (.int (z48.toInt32))) :: (na37, .inr ((.object "java/lang/String"), kn40, (Own.tN 16 H44 s46))) :: (na, .inr ((.object "java/lang/String"), kn, (Own.tN 8 Hf sf))) :: (va, .inr ((.object "java/lang/Object"), kv, (Own.tab 8 Vf))) :: (oa, .inr (.int, ko, (Own.tO 8 og))) :: (fr ++ tl49)) := H62.pull 3 _ rfl rfl
  have H64 : Own.HS Z h34 ((na37, .inr ((.object "java/lang/String"), kn40, (Own.tN 16 H44 s46))) :: (va38, .inr ((.object "java/lang/Object"), kv41, (Own.tab 16 V45))) :: (oa39, .inr (.int, ko42, (Own.tO 16 o47))) :: (t, o_NV (.ref na37) (.ref va38) (.ref oa39) (.int (z48.toInt32))) :: (na, .inr ((.object "java/lang/String"), kn, (Own.tN 8 Hf sf))) :: (va, .inr ((.object "java/lang/Object"), kv, (Own.tab 8 Vf))) :: (oa, .inr (.int, ko, (Own.tO 8 og))) :: (fr ++ tl49)) := H63.pull 3 _ rfl rfl
  have H65 : Own.HS Z h34 ((t, o_NV (.ref na37) (.ref va38) (.ref oa39) (.int (z48.toInt32))) :: (na37, .inr ((.object "java/lang/String"), kn40, (Own.tN 16 H44 s46))) :: (va38, .inr ((.object "java/lang/Object"), kv41, (Own.tab 16 V45))) :: (oa39, .inr (.int, ko42, (Own.tO 16 o47))) :: (na, .inr ((.object "java/lang/String"), kn, (Own.tN 8 Hf sf))) :: (va, .inr ((.object "java/lang/Object"), kv, (Own.tab 8 Vf))) :: (oa, .inr (.int, ko, (Own.tO 8 og))) :: (fr ++ tl49)) := H64.pull 3 _ rfl rfl
  refine Own.W.callV ok tb (a := t) (argsL := [(.ref (sf (og 1))), (Vf (og 1))]) (rest := []) 141 77 79 78 80 36 rfl rfl rfl rfl rfl rfl (notFace_of_selects (args := #[]) (mvT ok.2.1 (tb _ (List.mem_of_getElem? (i := 79) rfl)))) (H65.exa (i := 0) rfl) d_prog_12_method_11_85 pd_8 (c_putA l tb t na37 va38 oa39 kn40 kv41 ko42 16 K43 H44 V45 s46 o47 (Own.updL [] (Kf (og 0)) (Vf (og 0))) z48 (sf (og 1)) (Kf (og 1)) c0 (Vf (og 1)) ((na, .inr ((.object "java/lang/String"), kn, (Own.tN 8 Hf sf))) :: (va, .inr ((.object "java/lang/Object"), kv, (Own.tab 8 Vf))) :: (oa, .inr (.int, ko, (Own.tO 8 og))) :: fr) tl49 h34 ((na, .inr ((.object "java/lang/String"), kn, (Own.tN 8 Hf sf))) :: (va, .inr ((.object "java/lang/Object"), kv, (Own.tab 8 Vf))) :: (oa, .inr (.int, ko, (Own.tO 8 og))) :: (fr ++ tl49)) H65 rfl SC hc0 hq51 (by have := hq53; omega) (((Own.Mono.refl (Z := Z) (tl := tl)).trans hq52).1 _ _ (hS _ r1.2.1)) (((Own.Mono.refl (Z := Z) (tl := tl)).trans hq52).vok (hV _))) 0 3 40 88 ?_
  rintro _ h66 ⟨u68, na69, va70, oa71, kn72, kv73, ko74, K75, H76, V77, s78, o79, z80, tl81, rfl, H67, hq82, hq83, hq84, hq85⟩
  show Own.W l Z _ K _ h66 3 40 88 #[.val (.ref t), .val (.ref na), .val (.ref va), .val (.ref oa), .val (.int (4 : Int32)), .val (.int (1 : Int32))] [u68]
  have H86 : Own.HS Z h66 ((t, o_NV (.ref na69) (.ref va70) (.ref oa71) (.int (z80.toInt32))) :: (na69, .inr ((.object "java/lang/String"), kn72, (Own.tN 16 H76 s78))) :: (va70, .inr ((.object "java/lang/Object"), kv73, (Own.tab 16 V77))) :: (oa71, .inr (.int, ko74, (Own.tO 16 o79))) :: (na, .inr ((.object "java/lang/String"), kn, (Own.tN 8 Hf sf))) :: (va, .inr ((.object "java/lang/Object"), kv, (Own.tab 8 Vf))) :: (oa, .inr (.int, ko, (Own.tO 8 og))) :: (fr ++ tl81)) := H67
  refine Own.W.pop ok d_prog_12_method_11_88 89 (Own.cat_of hq82) ?_
  refine Own.W.iinc ok d_prog_12_method_11_89 92 (2 : Int32) #[.val (.ref t), .val (.ref na), .val (.ref va), .val (.ref oa), .val (.int (4 : Int32)), .val (.int (2 : Int32))] rfl (by decide) rfl ?_
  refine Own.W.goto ok d_prog_12_method_11_92 65 ?_
  refine Own.W.iload ok d_prog_12_method_11_65 67 rfl ?_
  refine Own.W.iload ok d_prog_12_method_11_67 69 rfl ?_
  refine Own.W.icmpF ok d_prog_12_method_11_69 72 (by decide : (2 : Int32) < (4 : Int32)) ?_
  refine Own.W.aloadN ok d_prog_12_method_11_72 73 rfl rfl ?_
  refine Own.W.aloadN ok d_prog_12_method_11_73 74 rfl rfl ?_
  refine Own.W.aloadN ok d_prog_12_method_11_74 75 rfl rfl ?_
  refine Own.W.iload ok d_prog_12_method_11_75 77 rfl ?_
  refine Own.W.iald ok H86 (i := 6) rfl (by decide) (show _ = some (Value.int (og 2).toInt32) from Own.getO (i := 2) (Or.inr (Or.inl rfl)) (by decide)) d_prog_12_method_11_77 78 ?_
  refine Own.W.aald ok H86 (i := 4) rfl (Own.nng (Or.inr (Or.inl rfl)) r2.1) (show _ = some (Value.ref (sf (og 2))) from Own.getN (Or.inr (Or.inl rfl)) r2.1 r2.2.1) d_prog_12_method_11_78 79 ?_
  refine Own.W.aloadN ok d_prog_12_method_11_79 80 rfl rfl ?_
  refine Own.W.aloadN ok d_prog_12_method_11_80 81 rfl rfl ?_
  refine Own.W.iload ok d_prog_12_method_11_81 83 rfl ?_
  refine Own.W.iald ok H86 (i := 6) rfl (by decide) (show _ = some (Value.int (og 2).toInt32) from Own.getO (i := 2) (Or.inr (Or.inl rfl)) (by decide)) d_prog_12_method_11_83 84 ?_
  refine Own.W.aald ok H86 (i := 5) rfl (Own.nng (Or.inr (Or.inl rfl)) r2.1) (Own.getV (Or.inr (Or.inl rfl)) r2.1) d_prog_12_method_11_84 85 ?_
  have H87 : Own.HS Z h66 ((oa, .inr (.int, ko, (Own.tO 8 og))) :: (t, o_NV (.ref na69) (.ref va70) (.ref oa71) (.int (z80.toInt32))) :: (na69, .inr ((.object "java/lang/String"), kn72, (Own.tN 16 H76 s78))) :: (va70, .inr ((.object "java/lang/Object"), kv73, (Own.tab 16 V77))) :: (oa71, .inr (.int, ko74, (Own.tO 16 o79))) :: (na, .inr ((.object "java/lang/String"), kn, (Own.tN 8 Hf sf))) :: (va, .inr ((.object "java/lang/Object"), kv, (Own.tab 8 Vf))) :: (fr ++ tl81)) := H86.pull 6 _ rfl rfl
  have H88 : Own.HS Z h66 ((va, .inr ((.object "java/lang/Object"), kv, (Own.tab 8 Vf))) :: (oa, .inr (.int, ko, (Own.tO 8 og))) :: (t, o_NV (.ref na69) (.ref va70) (.ref oa71) (.int (z80.toInt32))) :: (na69, .inr ((.object "java/lang/String"), kn72, (Own.tN 16 H76 s78))) :: (va70, .inr ((.object "java/lang/Object"), kv73, (Own.tab 16 V77))) :: (oa71, .inr (.int, ko74, (Own.tO 16 o79))) :: (na, .inr ((.object "java/lang/String"), kn, (Own.tN 8 Hf sf))) :: (fr ++ tl81)) := H87.pull 6 _ rfl rfl
  have H89 : Own.HS Z h66 ((na, .inr ((.object "java/lang/String"), kn, (Own.tN 8 Hf sf))) :: (va, .inr ((.object "java/lang/Object"), kv, (Own.tab 8 Vf))) :: (oa, .inr (.int, ko, (Own.tO 8 og))) :: (t, o_NV (.ref na69) (.ref va70) (.ref oa71) (.int (z80.toInt32))) :: (na69, .inr ((.object "java/lang/String"), kn72, (Own.tN 16 H76 s78))) :: (va70, .inr ((.object "java/lang/Object"), kv73, (Own.tab 16 V77))) :: (oa71, .inr (.int, ko74, (Own.tO 16 o79))) :: (fr ++ tl81)) := H88.pull 6 _ rfl rfl
  have H90 : Own.HS Z h66 ((oa71, .inr (.int, ko74, (Own.tO 16 o79))) :: (na, .inr ((.object "java/lang/String"), kn, (Own.tN 8 Hf sf))) :: (va, .inr ((.object "java/lang/Object"), kv, (Own.tab 8 Vf))) :: (oa, .inr (.int, ko, (Own.tO 8 og))) :: (t, o_NV (.ref na69) (.ref va70) (.ref oa71) (.int (z80.toInt32))) :: (na69, .inr ((.object "java/lang/String"), kn72, (Own.tN 16 H76 s78))) :: (va70, .inr ((.object "java/lang/Object"), kv73, (Own.tab 16 V77))) :: (fr ++ tl81)) := H89.pull 6 _ rfl rfl
  have H91 : Own.HS Z h66 ((va70, .inr ((.object "java/lang/Object"), kv73, (Own.tab 16 V77))) :: (oa71, .inr (.int, ko74, (Own.tO 16 o79))) :: (na, .inr ((.object "java/lang/String"), kn, (Own.tN 8 Hf sf))) :: (va, .inr ((.object "java/lang/Object"), kv, (Own.tab 8 Vf))) :: (oa, .inr (.int, ko, (Own.tO 8 og))) :: (t, o_NV (.ref na69) (.ref va70) (.ref oa71) (.int (z80.toInt32))) :: (na69, .inr ((.object "java/lang/String"), kn72, (Own.tN 16 H76 s78))) :: (fr ++ tl81)) := H90.pull 6 _ rfl rfl
  have H92 : Own.HS Z h66 ((na69, .inr ((.object "java/lang/String"), kn72, (Own.tN 16 H76 s78))) :: (va70, .inr ((.object "java/lang/Object"), kv73, (Own.tab 16 V77))) :: (oa71, .inr (.int, ko74, (Own.tO 16 o79))) :: (na, .inr ((.object "java/lang/String"), kn, (Own.tN 8 Hf sf))) :: (va, .inr ((.object "java/lang/Object"), kv, (Own.tab 8 Vf))) :: (oa, .inr (.int, ko, (Own.tO 8 og))) :: (t, o_NV (.ref na69) (.ref va70) (.ref oa71) (.int (z80.toInt32))) :: (fr ++ tl81)) := H91.pull 6 _ rfl rfl
  have H93 : Own.HS Z h66 ((t, o_NV (.ref na69) (.ref va70) (.ref oa71) (.int (z80.toInt32))) :: (na69, .inr ((.object "java/lang/String"), kn72, (Own.tN 16 H76 s78))) :: (va70, .inr ((.object "java/lang/Object"), kv73, (Own.tab 16 V77))) :: (oa71, .inr (.int, ko74, (Own.tO 16 o79))) :: (na, .inr ((.object "java/lang/String"), kn, (Own.tN 8 Hf sf))) :: (va, .inr ((.object "java/lang/Object"), kv, (Own.tab 8 Vf))) :: (oa, .inr (.int, ko, (Own.tO 8 og))) :: (fr ++ tl81)) := H92.pull 6 _ rfl rfl
  have H94 : Own.HS Z h66 ((oa71, .inr (.int, ko74, (Own.tO 16 o79))) :: (t, o_NV (.ref na69) (.ref va70) (.ref oa71) (.int (z80.toInt32))) :: (na69, .inr ((.object "java/lang/String"), kn72, (Own.tN 16 H76 s78))) :: (va70, .inr ((.object "java/lang/Object"), kv73, (Own.tab 16 V77))) :: (na, .inr ((.object "java/lang/String"), kn, (Own.tN 8 Hf sf))) :: (va, .inr ((.object "java/lang/Object"), kv, (Own.tab 8 Vf))) :: (oa, .inr (.int, ko, (Own.tO 8 og))) :: (fr ++ tl81)) := H93.pull 3 _ rfl rfl
  have H95 : Own.HS Z h66 ((va70, .inr ((.object "java/lang/Object"), kv73, (Own.tab 16 V77))) :: (oa71, .inr (.int, ko74, (Own.tO 16 o79))) :: (t, o_NV (.ref na69) (.ref va70) (.ref oa71) (.int (z80.toInt32))) :: (na69, .inr ((.object "java/lang/String"), kn72, (Own.tN 16 H76 s78))) :: (na, .inr ((.object "java/lang/String"), kn, (Own.tN 8 Hf sf))) :: (va, .inr ((.object "java/lang/Object"), kv, (Own.tab 8 Vf))) :: (oa, .inr (.int, ko, (Own.tO 8 og))) :: (fr ++ tl81)) := H94.pull 3 _ rfl rfl
  have H96 : Own.HS Z h66 ((na69, .inr ((.object "java/lang/String"), kn72, (Own.tN 16 H76 s78))) :: (va70, .inr ((.object "java/lang/Object"), kv73, (Own.tab 16 V77))) :: (oa71, .inr (.int, ko74, (Own.tO 16 o79))) :: (t, o_NV (.ref na69) (.ref va70) (.ref oa71) (.int (z80.toInt32))) :: (na, .inr ((.object "java/lang/String"), kn, (Own.tN 8 Hf sf))) :: (va, .inr ((.object "java/lang/Object"), kv, (Own.tab 8 Vf))) :: (oa, .inr (.int, ko, (Own.tO 8 og))) :: (fr ++ tl81)) := H95.pull 3 _ rfl rfl
  have H97 : Own.HS Z h66 ((t, o_NV (.ref na69) (.ref va70) (.ref oa71) (.int (z80.toInt32))) :: (na69, .inr ((.object "java/lang/String"), kn72, (Own.tN 16 H76 s78))) :: (va70, .inr ((.object "java/lang/Object"), kv73, (Own.tab 16 V77))) :: (oa71, .inr (.int, ko74, (Own.tO 16 o79))) :: (na, .inr ((.object "java/lang/String"), kn, (Own.tN 8 Hf sf))) :: (va, .inr ((.object "java/lang/Object"), kv, (Own.tab 8 Vf))) :: (oa, .inr (.int, ko, (Own.tO 8 og))) :: (fr ++ tl81)) := H96.pull 3 _ rfl rfl
  refine Own.W.callV ok tb (a := t) (argsL := [(.ref (sf (og 2))), (Vf (og 2))]) (rest := []) 141 77 79 78 80 36 rfl rfl rfl rfl rfl rfl (notFace_of_selects (args := #[]) (mvT ok.2.1 (tb _ (List.mem_of_getElem? (i := 79) rfl)))) (H97.exa (i := 0) rfl) d_prog_12_method_11_85 pd_8 (c_putA l tb t na69 va70 oa71 kn72 kv73 ko74 16 K75 H76 V77 s78 o79 (Own.updL (Own.updL [] (Kf (og 0)) (Vf (og 0))) (Kf (og 1)) (Vf (og 1))) z80 (sf (og 2)) (Kf (og 2)) c0 (Vf (og 2)) ((na, .inr ((.object "java/lang/String"), kn, (Own.tN 8 Hf sf))) :: (va, .inr ((.object "java/lang/Object"), kv, (Own.tab 8 Vf))) :: (oa, .inr (.int, ko, (Own.tO 8 og))) :: fr) tl81 h66 ((na, .inr ((.object "java/lang/String"), kn, (Own.tN 8 Hf sf))) :: (va, .inr ((.object "java/lang/Object"), kv, (Own.tab 8 Vf))) :: (oa, .inr (.int, ko, (Own.tO 8 og))) :: (fr ++ tl81)) H97 rfl SC hc0 hq83 (by have := hq53; have := hq85; omega) ((((Own.Mono.refl (Z := Z) (tl := tl)).trans hq52).trans hq84).1 _ _ (hS _ r2.2.1)) ((((Own.Mono.refl (Z := Z) (tl := tl)).trans hq52).trans hq84).vok (hV _))) 0 3 40 88 ?_
  rintro _ h98 ⟨u100, na101, va102, oa103, kn104, kv105, ko106, K107, H108, V109, s110, o111, z112, tl113, rfl, H99, hq114, hq115, hq116, hq117⟩
  show Own.W l Z _ K _ h98 3 40 88 #[.val (.ref t), .val (.ref na), .val (.ref va), .val (.ref oa), .val (.int (4 : Int32)), .val (.int (2 : Int32))] [u100]
  have H118 : Own.HS Z h98 ((t, o_NV (.ref na101) (.ref va102) (.ref oa103) (.int (z112.toInt32))) :: (na101, .inr ((.object "java/lang/String"), kn104, (Own.tN 16 H108 s110))) :: (va102, .inr ((.object "java/lang/Object"), kv105, (Own.tab 16 V109))) :: (oa103, .inr (.int, ko106, (Own.tO 16 o111))) :: (na, .inr ((.object "java/lang/String"), kn, (Own.tN 8 Hf sf))) :: (va, .inr ((.object "java/lang/Object"), kv, (Own.tab 8 Vf))) :: (oa, .inr (.int, ko, (Own.tO 8 og))) :: (fr ++ tl113)) := H99
  refine Own.W.pop ok d_prog_12_method_11_88 89 (Own.cat_of hq114) ?_
  refine Own.W.iinc ok d_prog_12_method_11_89 92 (3 : Int32) #[.val (.ref t), .val (.ref na), .val (.ref va), .val (.ref oa), .val (.int (4 : Int32)), .val (.int (3 : Int32))] rfl (by decide) rfl ?_
  refine Own.W.goto ok d_prog_12_method_11_92 65 ?_
  refine Own.W.iload ok d_prog_12_method_11_65 67 rfl ?_
  refine Own.W.iload ok d_prog_12_method_11_67 69 rfl ?_
  refine Own.W.icmpF ok d_prog_12_method_11_69 72 (by decide : (3 : Int32) < (4 : Int32)) ?_
  refine Own.W.aloadN ok d_prog_12_method_11_72 73 rfl rfl ?_
  refine Own.W.aloadN ok d_prog_12_method_11_73 74 rfl rfl ?_
  refine Own.W.aloadN ok d_prog_12_method_11_74 75 rfl rfl ?_
  refine Own.W.iload ok d_prog_12_method_11_75 77 rfl ?_
  refine Own.W.iald ok H118 (i := 6) rfl (by decide) (show _ = some (Value.int (og 3).toInt32) from Own.getO (i := 3) (Or.inr (Or.inl rfl)) (by decide)) d_prog_12_method_11_77 78 ?_
  refine Own.W.aald ok H118 (i := 4) rfl (Own.nng (Or.inr (Or.inl rfl)) r3.1) (show _ = some (Value.ref (sf (og 3))) from Own.getN (Or.inr (Or.inl rfl)) r3.1 r3.2.1) d_prog_12_method_11_78 79 ?_
  refine Own.W.aloadN ok d_prog_12_method_11_79 80 rfl rfl ?_
  refine Own.W.aloadN ok d_prog_12_method_11_80 81 rfl rfl ?_
  refine Own.W.iload ok d_prog_12_method_11_81 83 rfl ?_
  refine Own.W.iald ok H118 (i := 6) rfl (by decide) (show _ = some (Value.int (og 3).toInt32) from Own.getO (i := 3) (Or.inr (Or.inl rfl)) (by decide)) d_prog_12_method_11_83 84 ?_
  refine Own.W.aald ok H118 (i := 5) rfl (Own.nng (Or.inr (Or.inl rfl)) r3.1) (Own.getV (Or.inr (Or.inl rfl)) r3.1) d_prog_12_method_11_84 85 ?_
  have H119 : Own.HS Z h98 ((oa, .inr (.int, ko, (Own.tO 8 og))) :: (t, o_NV (.ref na101) (.ref va102) (.ref oa103) (.int (z112.toInt32))) :: (na101, .inr ((.object "java/lang/String"), kn104, (Own.tN 16 H108 s110))) :: (va102, .inr ((.object "java/lang/Object"), kv105, (Own.tab 16 V109))) :: (oa103, .inr (.int, ko106, (Own.tO 16 o111))) :: (na, .inr ((.object "java/lang/String"), kn, (Own.tN 8 Hf sf))) :: (va, .inr ((.object "java/lang/Object"), kv, (Own.tab 8 Vf))) :: (fr ++ tl113)) := H118.pull 6 _ rfl rfl
  have H120 : Own.HS Z h98 ((va, .inr ((.object "java/lang/Object"), kv, (Own.tab 8 Vf))) :: (oa, .inr (.int, ko, (Own.tO 8 og))) :: (t, o_NV (.ref na101) (.ref va102) (.ref oa103) (.int (z112.toInt32))) :: (na101, .inr ((.object "java/lang/String"), kn104, (Own.tN 16 H108 s110))) :: (va102, .inr ((.object "java/lang/Object"), kv105, (Own.tab 16 V109))) :: (oa103, .inr (.int, ko106, (Own.tO 16 o111))) :: (na, .inr ((.object "java/lang/String"), kn, (Own.tN 8 Hf sf))) :: (fr ++ tl113)) := H119.pull 6 _ rfl rfl
  have H121 : Own.HS Z h98 ((na, .inr ((.object "java/lang/String"), kn, (Own.tN 8 Hf sf))) :: (va, .inr ((.object "java/lang/Object"), kv, (Own.tab 8 Vf))) :: (oa, .inr (.int, ko, (Own.tO 8 og))) :: (t, o_NV (.ref na101) (.ref va102) (.ref oa103) (.int (z112.toInt32))) :: (na101, .inr ((.object "java/lang/String"), kn104, (Own.tN 16 H108 s110))) :: (va102, .inr ((.object "java/lang/Object"), kv105, (Own.tab 16 V109))) :: (oa103, .inr (.int, ko106, (Own.tO 16 o111))) :: (fr ++ tl113)) := H120.pull 6 _ rfl rfl
  have H122 : Own.HS Z h98 ((oa103, .inr (.int, ko106, (Own.tO 16 o111))) :: (na, .inr ((.object "java/lang/String"), kn, (Own.tN 8 Hf sf))) :: (va, .inr ((.object "java/lang/Object"), kv, (Own.tab 8 Vf))) :: (oa, .inr (.int, ko, (Own.tO 8 og))) :: (t, o_NV (.ref na101) (.ref va102) (.ref oa103) (.int (z112.toInt32))) :: (na101, .inr ((.object "java/lang/String"), kn104, (Own.tN 16 H108 s110))) :: (va102, .inr ((.object "java/lang/Object"), kv105, (Own.tab 16 V109))) :: (fr ++ tl113)) := H121.pull 6 _ rfl rfl
  have H123 : Own.HS Z h98 ((va102, .inr ((.object "java/lang/Object"), kv105, (Own.tab 16 V109))) :: (oa103, .inr (.int, ko106, (Own.tO 16 o111))) :: (na, .inr ((.object "java/lang/String"), kn, (Own.tN 8 Hf sf))) :: (va, .inr ((.object "java/lang/Object"), kv, (Own.tab 8 Vf))) :: (oa, .inr (.int, ko, (Own.tO 8 og))) :: (t, o_NV (.ref na101) (.ref va102) (.ref oa103) (.int (z112.toInt32))) :: (na101, .inr ((.object "java/lang/String"), kn104, (Own.tN 16 H108 s110))) :: (fr ++ tl113)) := H122.pull 6 _ rfl rfl
  have H124 : Own.HS Z h98 ((na101, .inr ((.object "java/lang/String"), kn104, (Own.tN 16 H108 s110))) :: (va102, .inr ((.object "java/lang/Object"), kv105, (Own.tab 16 V109))) :: (oa103, .inr (.int, ko106, (Own.tO 16 o111))) :: (na, .inr ((.object "java/lang/String"), kn, (Own.tN 8 Hf sf))) :: (va, .inr ((.object "java/lang/Object"), kv, (Own.tab 8 Vf))) :: (oa, .inr (.int, ko, (Own.tO 8 og))) :: (t, o_NV (.ref na101) (.ref va102) (.ref oa103) (.int (z112.toInt32))) :: (fr ++ tl113)) := H123.pull 6 _ rfl rfl
  have H125 : Own.HS Z h98 ((t, o_NV (.ref na101) (.ref va102) (.ref oa103) (.int (z112.toInt32))) :: (na101, .inr ((.object "java/lang/String"), kn104, (Own.tN 16 H108 s110))) :: (va102, .inr ((.object "java/lang/Object"), kv105, (Own.tab 16 V109))) :: (oa103, .inr (.int, ko106, (Own.tO 16 o111))) :: (na, .inr ((.object "java/lang/String"), kn, (Own.tN 8 Hf sf))) :: (va, .inr ((.object "java/lang/Object"), kv, (Own.tab 8 Vf))) :: (oa, .inr (.int, ko, (Own.tO 8 og))) :: (fr ++ tl113)) := H124.pull 6 _ rfl rfl
  have H126 : Own.HS Z h98 ((oa103, .inr (.int, ko106, (Own.tO 16 o111))) :: (t, o_NV (.ref na101) (.ref va102) (.ref oa103) (.int (z112.toInt32))) :: (na101, .inr ((.object "java/lang/String"), kn104, (Own.tN 16 H108 s110))) :: (va102, .inr ((.object "java/lang/Object"), kv105, (Own.tab 16 V109))) :: (na, .inr ((.object "java/lang/String"), kn, (Own.tN 8 Hf sf))) :: (va, .inr ((.object "java/lang/Object"), kv, (Own.tab 8 Vf))) :: (oa, .inr (.int, ko, (Own.tO 8 og))) :: (fr ++ tl113)) := H125.pull 3 _ rfl rfl
  have H127 : Own.HS Z h98 ((va102, .inr ((.object "java/lang/Object"), kv105, (Own.tab 16 V109))) :: (oa103, .inr (.int, ko106, (Own.tO 16 o111))) :: (t, o_NV (.ref na101) (.ref va102) (.ref oa103) (.int (z112.toInt32))) :: (na101, .inr ((.object "java/lang/String"), kn104, (Own.tN 16 H108 s110))) :: (na, .inr ((.object "java/lang/String"), kn, (Own.tN 8 Hf sf))) :: (va, .inr ((.object "java/lang/Object"), kv, (Own.tab 8 Vf))) :: (oa, .inr (.int, ko, (Own.tO 8 og))) :: (fr ++ tl113)) := H126.pull 3 _ rfl rfl
  have H128 : Own.HS Z h98 ((na101, .inr ((.object "java/lang/String"), kn104, (Own.tN 16 H108 s110))) :: (va102, .inr ((.object "java/lang/Object"), kv105, (Own.tab 16 V109))) :: (oa103, .inr (.int, ko106, (Own.tO 16 o111))) :: (t, o_NV (.ref na101) (.ref va102) (.ref oa103) (.int (z112.toInt32))) :: (na, .inr ((.object "java/lang/String"), kn, (Own.tN 8 Hf sf))) :: (va, .inr ((.object "java/lang/Object"), kv, (Own.tab 8 Vf))) :: (oa, .inr (.int, ko, (Own.tO 8 og))) :: (fr ++ tl113)) := H127.pull 3 _ rfl rfl
  have H129 : Own.HS Z h98 ((t, o_NV (.ref na101) (.ref va102) (.ref oa103) (.int (z112.toInt32))) :: (na101, .inr ((.object "java/lang/String"), kn104, (Own.tN 16 H108 s110))) :: (va102, .inr ((.object "java/lang/Object"), kv105, (Own.tab 16 V109))) :: (oa103, .inr (.int, ko106, (Own.tO 16 o111))) :: (na, .inr ((.object "java/lang/String"), kn, (Own.tN 8 Hf sf))) :: (va, .inr ((.object "java/lang/Object"), kv, (Own.tab 8 Vf))) :: (oa, .inr (.int, ko, (Own.tO 8 og))) :: (fr ++ tl113)) := H128.pull 3 _ rfl rfl
  refine Own.W.callV ok tb (a := t) (argsL := [(.ref (sf (og 3))), (Vf (og 3))]) (rest := []) 141 77 79 78 80 36 rfl rfl rfl rfl rfl rfl (notFace_of_selects (args := #[]) (mvT ok.2.1 (tb _ (List.mem_of_getElem? (i := 79) rfl)))) (H129.exa (i := 0) rfl) d_prog_12_method_11_85 pd_8 (c_putA l tb t na101 va102 oa103 kn104 kv105 ko106 16 K107 H108 V109 s110 o111 (Own.updL (Own.updL (Own.updL [] (Kf (og 0)) (Vf (og 0))) (Kf (og 1)) (Vf (og 1))) (Kf (og 2)) (Vf (og 2))) z112 (sf (og 3)) (Kf (og 3)) c0 (Vf (og 3)) ((na, .inr ((.object "java/lang/String"), kn, (Own.tN 8 Hf sf))) :: (va, .inr ((.object "java/lang/Object"), kv, (Own.tab 8 Vf))) :: (oa, .inr (.int, ko, (Own.tO 8 og))) :: fr) tl113 h98 ((na, .inr ((.object "java/lang/String"), kn, (Own.tN 8 Hf sf))) :: (va, .inr ((.object "java/lang/Object"), kv, (Own.tab 8 Vf))) :: (oa, .inr (.int, ko, (Own.tO 8 og))) :: (fr ++ tl113)) H129 rfl SC hc0 hq115 (by have := hq53; have := hq85; have := hq117; omega) (((((Own.Mono.refl (Z := Z) (tl := tl)).trans hq52).trans hq84).trans hq116).1 _ _ (hS _ r3.2.1)) (((((Own.Mono.refl (Z := Z) (tl := tl)).trans hq52).trans hq84).trans hq116).vok (hV _))) 0 3 40 88 ?_
  rintro _ h130 ⟨u132, na133, va134, oa135, kn136, kv137, ko138, K139, H140, V141, s142, o143, z144, tl145, rfl, H131, hq146, hq147, hq148, hq149⟩
  show Own.W l Z _ K _ h130 3 40 88 #[.val (.ref t), .val (.ref na), .val (.ref va), .val (.ref oa), .val (.int (4 : Int32)), .val (.int (3 : Int32))] [u132]
  have H150 : Own.HS Z h130 ((t, o_NV (.ref na133) (.ref va134) (.ref oa135) (.int (z144.toInt32))) :: (na133, .inr ((.object "java/lang/String"), kn136, (Own.tN 16 H140 s142))) :: (va134, .inr ((.object "java/lang/Object"), kv137, (Own.tab 16 V141))) :: (oa135, .inr (.int, ko138, (Own.tO 16 o143))) :: (na, .inr ((.object "java/lang/String"), kn, (Own.tN 8 Hf sf))) :: (va, .inr ((.object "java/lang/Object"), kv, (Own.tab 8 Vf))) :: (oa, .inr (.int, ko, (Own.tO 8 og))) :: (fr ++ tl145)) := H131
  refine Own.W.pop ok d_prog_12_method_11_88 89 (Own.cat_of hq146) ?_
  refine Own.W.iinc ok d_prog_12_method_11_89 92 (4 : Int32) #[.val (.ref t), .val (.ref na), .val (.ref va), .val (.ref oa), .val (.int (4 : Int32)), .val (.int (4 : Int32))] rfl (by decide) rfl ?_
  refine Own.W.goto ok d_prog_12_method_11_92 65 ?_
  refine Own.W.iload ok d_prog_12_method_11_65 67 rfl ?_
  refine Own.W.iload ok d_prog_12_method_11_67 69 rfl ?_
  refine Own.W.icmpT ok d_prog_12_method_11_69 95 (by decide : ¬ ((4 : Int32) < (4 : Int32))) ?_
  exact Own.W.vret ok d_prog_12_method_11_95 ⟨na133, va134, oa135, kn136, kv137, ko138, K139, H140, V141, s142, o143, z144, tl145, rfl, (((((H150.pull 3 ((oa135, .inr (.int, ko138, (Own.tO 16 o143))) :: (t, o_NV (.ref na133) (.ref va134) (.ref oa135) (.int (z144.toInt32))) :: (na133, .inr ((.object "java/lang/String"), kn136, (Own.tN 16 H140 s142))) :: (va134, .inr ((.object "java/lang/Object"), kv137, (Own.tab 16 V141))) :: (na, .inr ((.object "java/lang/String"), kn, (Own.tN 8 Hf sf))) :: (va, .inr ((.object "java/lang/Object"), kv, (Own.tab 8 Vf))) :: (oa, .inr (.int, ko, (Own.tO 8 og))) :: (fr ++ tl145)) rfl rfl).pull 3 ((va134, .inr ((.object "java/lang/Object"), kv137, (Own.tab 16 V141))) :: (oa135, .inr (.int, ko138, (Own.tO 16 o143))) :: (t, o_NV (.ref na133) (.ref va134) (.ref oa135) (.int (z144.toInt32))) :: (na133, .inr ((.object "java/lang/String"), kn136, (Own.tN 16 H140 s142))) :: (na, .inr ((.object "java/lang/String"), kn, (Own.tN 8 Hf sf))) :: (va, .inr ((.object "java/lang/Object"), kv, (Own.tab 8 Vf))) :: (oa, .inr (.int, ko, (Own.tO 8 og))) :: (fr ++ tl145)) rfl rfl).pull 3 ((na133, .inr ((.object "java/lang/String"), kn136, (Own.tN 16 H140 s142))) :: (va134, .inr ((.object "java/lang/Object"), kv137, (Own.tab 16 V141))) :: (oa135, .inr (.int, ko138, (Own.tO 16 o143))) :: (t, o_NV (.ref na133) (.ref va134) (.ref oa135) (.int (z144.toInt32))) :: (na, .inr ((.object "java/lang/String"), kn, (Own.tN 8 Hf sf))) :: (va, .inr ((.object "java/lang/Object"), kv, (Own.tab 8 Vf))) :: (oa, .inr (.int, ko, (Own.tO 8 og))) :: (fr ++ tl145)) rfl rfl).pull 3 ((t, o_NV (.ref na133) (.ref va134) (.ref oa135) (.int (z144.toInt32))) :: (na133, .inr ((.object "java/lang/String"), kn136, (Own.tN 16 H140 s142))) :: (va134, .inr ((.object "java/lang/Object"), kv137, (Own.tab 16 V141))) :: (oa135, .inr (.int, ko138, (Own.tO 16 o143))) :: (na, .inr ((.object "java/lang/String"), kn, (Own.tN 8 Hf sf))) :: (va, .inr ((.object "java/lang/Object"), kv, (Own.tab 8 Vf))) :: (oa, .inr (.int, ko, (Own.tO 8 og))) :: (fr ++ tl145)) rfl rfl).drop (List.Sublist.cons_cons _ (List.Sublist.cons_cons _ (List.Sublist.cons_cons _ (List.Sublist.cons_cons _ (List.Sublist.cons _ (List.Sublist.cons _ (List.Sublist.cons _ (List.Sublist.refl _))))))))), Own.updL4 T.2.2.2.1 T.2.2.2.2 el ▸ hq147, (((((Own.Mono.refl (Z := Z) (tl := tl)).trans hq52).trans hq84).trans hq116).trans hq148)⟩
set_option maxRecDepth 65536 in
set_option maxHeartbeats 4000000 in
theorem c_putB (l : Launch) {Z : State} {a0 : Array Value} (tb : Own.Tb Z a0 tables_1) (t : Addr) (na : Addr) (va : Addr) (oa : Addr) (kn : ClassId) (kv : ClassId) (ko : ClassId) (n : Nat) (Kf : Nat → Int32) (Hf : Nat → Bool) (Vf : Nat → Value) (sf : Nat → Addr) (og : Nat → Nat) (es : List (Int32 × Value)) (z : Nat) (a : Addr) (c : Int32) (c0 : Int32) (v : Value) (fr : List (Addr × Own.Pc)) (tl : List (Addr × Own.Pc)) (h : Heap) (cs : List (Addr × Own.Pc)) (H : Own.HS Z h ((t, o_NV (.ref na) (.ref va) (.ref oa) (.int (z.toInt32))) :: (na, .inr ((.object "java/lang/String"), kn, (Own.tN n Hf sf))) :: (va, .inr ((.object "java/lang/Object"), kv, (Own.tab n Vf))) :: (oa, .inr (.int, ko, (Own.tO n og))) :: cs)) (ecs : cs = fr ++ tl) (SC : Sta Z Z.heap "java/lang/String" "COMPACT_STRINGS" "Z" (.int c0)) (hc0 : ¬ (c0 = (0 : Int32))) (TT : Own.TS Z tl n Kf Hf Vf sf og es z kn kv) (hg0 : n = 4 ∨ n = 8 ∨ 2 * (z + 1) < n) (hs : Own.SOK tl a c) (hv : Own.VOK Z tl v) :
    Own.Con l Z (⟨"com/example/vestwright/vestwright/NamedValues", "put", "(Ljava/lang/String;Ljava/lang/Object;)Ljava/lang/Object;"⟩ : MethodName) prog_12_method_5_code 6 (some (.object "java/lang/Object")) ({ frames := 4, cells := 3, slots := 40, locals := 92 } : Room) #[(.ref t), (.ref a), v] h (fun rr h' => ∃ (u : Value) (na2 : Addr) (va2 : Addr) (oa2 : Addr) (kn2 : ClassId) (kv2 : ClassId) (ko2 : ClassId) (n2 : Nat) (K2 : Nat → Int32) (H2 : Nat → Bool) (V2 : Nat → Value) (s2 : Nat → Addr) (o2 : Nat → Nat) (z2 : Nat) (tl2 : List (Addr × Own.Pc)), rr = some u ∧ Own.HS Z h' ((t, o_NV (.ref na2) (.ref va2) (.ref oa2) (.int (z2.toInt32))) :: (na2, .inr ((.object "java/lang/String"), kn2, (Own.tN n2 H2 s2))) :: (va2, .inr ((.object "java/lang/Object"), kv2, (Own.tab n2 V2))) :: (oa2, .inr (.int, ko2, (Own.tO n2 o2))) :: (fr ++ tl2)) ∧ u.isRef = true ∧ Own.TS Z tl2 n2 K2 H2 V2 s2 o2 (Own.updL es c v) z2 kn2 kv2 ∧ Own.Mono Z tl tl2 ∧ z2 ≤ z + 1) := by
  refine Own.Con.of (plainFor_of_name (by first | (simp [plainName, overriddenIn]; done) | decide +kernel)) #[.val (.ref t), .val (.ref a), .val v, .unset, .unset, .unset] (fun m => by rcases ref_cases hv.ref with e | ⟨_, e⟩ <;> rw [e] <;> first | rfl | (simp [entryFrame, mkF, argsToLocals, Value.category, maxLocals]; done)) (fun K ok => ?_)
  subst ecs
  obtain ⟨T, ez, hz, hV, hS, On, Ov⟩ := TT
  have hn := T.1
  obtain ⟨D, F⟩ := T.fst_ex (by omega) c
  refine Own.W.aloadN ok d_prog_12_method_5_0 1 rfl rfl ?_
  refine Own.W.getF ok tb 61 rfl Via.refl (H.fld (i := 0) (j := 0) rfl rfl) d_prog_12_method_5_1 4 ?_
  refine Own.W.alen ok H (i := 1) rfl d_prog_12_method_5_4 5 (n.toInt32) Own.lenN ?_
  refine Own.W.iconst ok d_prog_12_method_5_5 6 (1 : Int32) rfl ?_
  refine Own.W.isubV ok d_prog_12_method_5_6 7 (Own.mk n) rfl ?_
  refine Own.W.istoreN ok d_prog_12_method_5_7 8 #[.val (.ref t), .val (.ref a), .val v, .val (.int (Own.mk n)), .unset, .unset] rfl ?_
  refine Own.W.aloadN ok d_prog_12_method_5_8 9 rfl rfl ?_
  have exs := Own.SOK.exa H Own.mem4 hs
  refine Own.W.callV ok tb (a := a) (argsL := []) (rest := []) 81 82 84 83 85 7 rfl rfl rfl rfl rfl rfl (notFace_of_selects (args := #[]) (mvT ok.2.1 (tb _ (List.mem_of_getElem? (i := 84) rfl)))) exs d_prog_12_method_5_9 pd_6 (c_hc l tb a c0 c ((t, o_NV (.ref na) (.ref va) (.ref oa) (.int (z.toInt32))) :: (na, .inr ((.object "java/lang/String"), kn, (Own.tN n Hf sf))) :: (va, .inr ((.object "java/lang/Object"), kv, (Own.tab n Vf))) :: (oa, .inr (.int, ko, (Own.tO n og))) :: fr) tl h ((t, o_NV (.ref na) (.ref va) (.ref oa) (.int (z.toInt32))) :: (na, .inr ((.object "java/lang/String"), kn, (Own.tN n Hf sf))) :: (va, .inr ((.object "java/lang/Object"), kv, (Own.tab n Vf))) :: (oa, .inr (.int, ko, (Own.tO n og))) :: (fr ++ tl)) H rfl SC hc0 hs) 0 0 0 12 ?_
  rintro _ h1 ⟨tl1, rfl, H2, hq3⟩
  show Own.W l Z _ K _ h1 0 0 12 #[.val (.ref t), .val (.ref a), .val v, .val (.int (Own.mk n)), .unset, .unset] [(.int c)]
  have H4 : Own.HS Z h1 ((t, o_NV (.ref na) (.ref va) (.ref oa) (.int (z.toInt32))) :: (na, .inr ((.object "java/lang/String"), kn, (Own.tN n Hf sf))) :: (va, .inr ((.object "java/lang/Object"), kv, (Own.tab n Vf))) :: (oa, .inr (.int, ko, (Own.tO n og))) :: (fr ++ tl1)) := H2
  have mo := hq3
  have hs2 := mo.1 _ _ hs
  have hv2 := mo.vok hv
  have hV2 := fun j => mo.vok (hV j)
  have hS2 := mo.sok hS
  refine Own.W.iloadN ok d_prog_12_method_5_12 13 rfl ?_
  refine Own.W.iandV ok d_prog_12_method_5_13 14 ((Own.pr n (Own.s0 n c) 0).toInt32) (Own.s0_spec hn c).1 ?_
  refine Own.W.istore ok d_prog_12_method_5_14 16 #[.val (.ref t), .val (.ref a), .val v, .val (.int (Own.mk n)), .val (.int ((Own.pr n (Own.s0 n c) 0).toInt32)), .unset] rfl ?_
  have J5 : Own.W l Z ({ frames := 4, cells := 3, slots := 40, locals := 92 } : Room) K (fun rr h' => ∃ (u : Value) (na2 : Addr) (va2 : Addr) (oa2 : Addr) (kn2 : ClassId) (kv2 : ClassId) (ko2 : ClassId) (n2 : Nat) (K2 : Nat → Int32) (H2 : Nat → Bool) (V2 : Nat → Value) (s2 : Nat → Addr) (o2 : Nat → Nat) (z2 : Nat) (tl2 : List (Addr × Own.Pc)), rr = some u ∧ Own.HS Z h' ((t, o_NV (.ref na2) (.ref va2) (.ref oa2) (.int (z2.toInt32))) :: (na2, .inr ((.object "java/lang/String"), kn2, (Own.tN n2 H2 s2))) :: (va2, .inr ((.object "java/lang/Object"), kv2, (Own.tab n2 V2))) :: (oa2, .inr (.int, ko2, (Own.tO n2 o2))) :: (fr ++ tl2)) ∧ u.isRef = true ∧ Own.TS Z tl2 n2 K2 H2 V2 s2 o2 (Own.updL es c v) z2 kn2 kv2 ∧ Own.Mono Z tl tl2 ∧ z2 ≤ z + 1) h1 0 0 62 #[.val (.ref t), .val (.ref a), .val v, .val (.int (Own.mk n)), .val (.int ((Own.pr n (Own.s0 n c) D).toInt32)), .unset] [] := by
    cases hb : Hf (Own.pr n (Own.s0 n c) D) with
    | false =>
      refine Own.W.aloadN ok d_prog_12_method_5_62 63 rfl rfl ?_
      refine Own.W.getF ok tb 65 rfl Via.refl (H4.fld (i := 0) (j := 1) rfl rfl) d_prog_12_method_5_63 66 ?_
      refine Own.W.iload ok d_prog_12_method_5_66 68 rfl ?_
      refine Own.W.aald ok H4 (i := 2) rfl (Own.nng hn (Own.pr_lt hn _ _)) (Own.getV hn (Own.pr_lt hn _ _)) d_prog_12_method_5_68 69 ?_
      refine Own.W.astore ok d_prog_12_method_5_69 71 #[.val (.ref t), .val (.ref a), .val v, .val (.int (Own.mk n)), .val (.int ((Own.pr n (Own.s0 n c) D).toInt32)), .val (Vf (Own.pr n (Own.s0 n c) D))] (hV2 (Own.pr n (Own.s0 n c) D)).ref (by rcases ref_cases (hV2 (Own.pr n (Own.s0 n c) D)).ref with e | ⟨_, e⟩ <;> rw [e] <;> rfl) ?_
      refine Own.W.aloadN ok d_prog_12_method_5_71 72 rfl rfl ?_
      refine Own.W.getF ok tb 65 rfl Via.refl (H4.fld (i := 0) (j := 1) rfl rfl) d_prog_12_method_5_72 75 ?_
      refine Own.W.iload ok d_prog_12_method_5_75 77 rfl ?_
      refine Own.W.aloadN ok d_prog_12_method_5_77 78 rfl hv.ref ?_
      refine Own.W.aast ok H4 (i := 2) rfl (Own.nng hn (Own.pr_lt hn _ _)) (Own.ltT hn (Own.pr_lt hn _ _)) (Own.VOK.sto H4 (i := 2) rfl Ov Own.mem4 hv2 (tb _ (List.mem_of_getElem? (i := 99) rfl))) d_prog_12_method_5_78 79 ((t, o_NV (.ref na) (.ref va) (.ref oa) (.int (z.toInt32))) :: (na, .inr ((.object "java/lang/String"), kn, (Own.tN n Hf sf))) :: (va, .inr ((.object "java/lang/Object"), kv, (Own.tab n (Own.fs Vf (Own.pr n (Own.s0 n c) D) v)))) :: (oa, .inr (.int, ko, (Own.tO n og))) :: (fr ++ tl1)) (by rw [Own.setV hn (Own.pr_lt hn _ _)]; rfl) (fun h6 H7 => ?_)
      refine Own.W.aloadN ok d_prog_12_method_5_79 80 rfl rfl ?_
      refine Own.W.getF ok tb 61 rfl Via.refl (H7.fld (i := 0) (j := 0) rfl rfl) d_prog_12_method_5_80 83 ?_
      refine Own.W.iload ok d_prog_12_method_5_83 85 rfl ?_
      refine Own.W.aald ok H7 (i := 1) rfl (Own.nng hn (Own.pr_lt hn _ _)) (show _ = some Value.null from Own.getN hn (Own.pr_lt hn _ _) hb) d_prog_12_method_5_85 86 ?_
      refine Own.W.ifnonnullF ok d_prog_12_method_5_86 89 ?_
      refine Own.W.aloadN ok d_prog_12_method_5_89 90 rfl rfl ?_
      refine Own.W.getF ok tb 61 rfl Via.refl (H7.fld (i := 0) (j := 0) rfl rfl) d_prog_12_method_5_90 93 ?_
      refine Own.W.iload ok d_prog_12_method_5_93 95 rfl ?_
      refine Own.W.aloadN ok d_prog_12_method_5_95 96 rfl rfl ?_
      refine Own.W.aast ok H7 (i := 1) rfl (Own.nng hn (Own.pr_lt hn _ _)) (Own.ltT hn (Own.pr_lt hn _ _)) (H7.sto (i := 1) rfl On (Ins.self (Own.SOK.exa H7 Own.mem4 hs2))) d_prog_12_method_5_96 97 ((t, o_NV (.ref na) (.ref va) (.ref oa) (.int (z.toInt32))) :: (na, .inr ((.object "java/lang/String"), kn, (Own.tN n (Own.fs Hf (Own.pr n (Own.s0 n c) D) true) (Own.fs sf (Own.pr n (Own.s0 n c) D) a)))) :: (va, .inr ((.object "java/lang/Object"), kv, (Own.tab n (Own.fs Vf (Own.pr n (Own.s0 n c) D) v)))) :: (oa, .inr (.int, ko, (Own.tO n og))) :: (fr ++ tl1)) (by rw [Own.setN hn (Own.pr_lt hn _ _)]; rfl) (fun h8 H9 => ?_)
      refine Own.W.aloadN ok d_prog_12_method_5_97 98 rfl rfl ?_
      refine Own.W.getF ok tb 68 rfl Via.refl (H9.fld (i := 0) (j := 2) rfl rfl) d_prog_12_method_5_98 101 ?_
      refine Own.W.aloadN ok d_prog_12_method_5_101 102 rfl rfl ?_
      refine Own.W.dup ok d_prog_12_method_5_102 103 rfl ?_
      refine Own.W.getF ok tb 100 rfl Via.refl (H9.fld (i := 0) (j := 3) rfl rfl) d_prog_12_method_5_103 106 ?_
      refine Own.W.dupX1 ok d_prog_12_method_5_106 107 rfl rfl ?_
      refine Own.W.iconst ok d_prog_12_method_5_107 108 (1 : Int32) rfl ?_
      refine Own.W.iaddV ok d_prog_12_method_5_108 109 ((z + 1).toInt32) (Own.sucI z) ?_
      refine Own.W.putF ok tb H9 (i := 0) (j := 3) (ty := .int) (w' := (.int ((z + 1).toInt32))) rfl rfl 100 35 rfl rfl Via.refl (Or.inl (tb _ (List.mem_of_getElem? (i := 101) rfl))) (Own.Lay.of (nw_NV tb) rfl) (by decide) rfl rfl d_prog_12_method_5_109 112 ((t, o_NV (.ref na) (.ref va) (.ref oa) (.int ((z + 1).toInt32))) :: (na, .inr ((.object "java/lang/String"), kn, (Own.tN n (Own.fs Hf (Own.pr n (Own.s0 n c) D) true) (Own.fs sf (Own.pr n (Own.s0 n c) D) a)))) :: (va, .inr ((.object "java/lang/Object"), kv, (Own.tab n (Own.fs Vf (Own.pr n (Own.s0 n c) D) v)))) :: (oa, .inr (.int, ko, (Own.tO n og))) :: (fr ++ tl1)) rfl (fun h10 H11 => ?_)
      refine Own.W.iload ok d_prog_12_method_5_112 114 rfl ?_
      refine Own.W.iast ok H11 (i := 3) rfl (Own.nng hn (by omega)) (Own.ltO hn hz) d_prog_12_method_5_114 115 ((t, o_NV (.ref na) (.ref va) (.ref oa) (.int ((z + 1).toInt32))) :: (na, .inr ((.object "java/lang/String"), kn, (Own.tN n (Own.fs Hf (Own.pr n (Own.s0 n c) D) true) (Own.fs sf (Own.pr n (Own.s0 n c) D) a)))) :: (va, .inr ((.object "java/lang/Object"), kv, (Own.tab n (Own.fs Vf (Own.pr n (Own.s0 n c) D) v)))) :: (oa, .inr (.int, ko, (Own.tO n (Own.fs og z (Own.pr n (Own.s0 n c) D))))) :: (fr ++ tl1)) (by rw [Own.setO hn hz]; rfl) (fun h12 H13 => ?_)
      by_cases hg : 2 * (z + 1) < n
      · refine Own.W.aloadN ok d_prog_12_method_5_115 116 rfl rfl ?_
        refine Own.W.getF ok tb 100 rfl Via.refl (H13.fld (i := 0) (j := 3) rfl rfl) d_prog_12_method_5_116 119 ?_
        refine Own.W.iconst ok d_prog_12_method_5_119 120 (2 : Int32) rfl ?_
        refine Own.W.imul ok d_prog_12_method_5_120 121 ?_
        refine Own.W.aloadN ok d_prog_12_method_5_121 122 rfl rfl ?_
        refine Own.W.getF ok tb 61 rfl Via.refl (H13.fld (i := 0) (j := 0) rfl rfl) d_prog_12_method_5_122 125 ?_
        refine Own.W.alen ok H13 (i := 1) rfl d_prog_12_method_5_125 126 (n.toInt32) Own.lenN ?_
        refine Own.W.icmpT ok d_prog_12_method_5_126 133 ((Own.sz_lt hn (by omega)).mpr hg) ?_
        refine Own.W.aload ok d_prog_12_method_5_133 135 rfl (hV2 (Own.pr n (Own.s0 n c) D)).ref ?_
        exact Own.W.aret ok d_prog_12_method_5_135 ⟨_, na, va, oa, kn, kv, ko, n, Own.fs Kf (Own.pr n (Own.s0 n c) D) c, Own.fs Hf (Own.pr n (Own.s0 n c) D) true, Own.fs Vf (Own.pr n (Own.s0 n c) D) v, Own.fs sf (Own.pr n (Own.s0 n c) D) a, Own.fs og z (Own.pr n (Own.s0 n c) D), z + 1, tl1, rfl, H13, (hV2 _).ref, ⟨ez ▸ (T.add F hb).1, (T.add (v := v) F hb).2.trans (congrArg (· + 1) ez), hg, Own.VOK.fs hV2 hv2, Own.SOK.fs hS2 hs2, On, Ov⟩, mo, Nat.le_refl _⟩ (by rcases ref_cases (hV2 (Own.pr n (Own.s0 n c) D)).ref with e | ⟨_, e⟩ <;> rw [e] <;> rfl) rfl (hV2 (Own.pr n (Own.s0 n c) D)).ref
      · rcases (show n = 4 ∨ n = 8 by omega) with e4 | e4
        · have e1 : z = 1 := by omega
          subst e4 e1
          refine Own.W.aloadN ok d_prog_12_method_5_115 116 rfl rfl ?_
          refine Own.W.getF ok tb 100 rfl Via.refl (H13.fld (i := 0) (j := 3) rfl rfl) d_prog_12_method_5_116 119 ?_
          refine Own.W.iconst ok d_prog_12_method_5_119 120 (2 : Int32) rfl ?_
          refine Own.W.imul ok d_prog_12_method_5_120 121 ?_
          refine Own.W.aloadN ok d_prog_12_method_5_121 122 rfl rfl ?_
          refine Own.W.getF ok tb 61 rfl Via.refl (H13.fld (i := 0) (j := 0) rfl rfl) d_prog_12_method_5_122 125 ?_
          refine Own.W.alen ok H13 (i := 1) rfl d_prog_12_method_5_125 126 ((4 : Nat).toInt32) Own.lenN ?_
          refine Own.W.icmpF ok d_prog_12_method_5_126 129 (by decide : ¬ (((1 + 1 : Nat).toInt32 * (2 : Int32)) < (4 : Nat).toInt32)) ?_
          refine Own.W.aloadN ok d_prog_12_method_5_129 130 rfl rfl ?_
          have na_ := T.add (v := v) F hb
          have H14 : Own.HS Z h12 ((oa, .inr (.int, ko, (Own.tO 4 (Own.fs og 1 (Own.pr 4 (Own.s0 4 c) D))))) :: (t, o_NV (.ref na) (.ref va) (.ref oa) (.int (2 : Int32))) :: (na, .inr ((.object "java/lang/String"), kn, (Own.tN 4 (Own.fs Hf (Own.pr 4 (Own.s0 4 c) D) true) (Own.fs sf (Own.pr 4 (Own.s0 4 c) D) a)))) :: (va, .inr ((.object "java/lang/Object"), kv, (Own.tab 4 (Own.fs Vf (Own.pr 4 (Own.s0 4 c) D) v)))) :: (fr ++ tl1)) := H13.pull 3 _ rfl rfl
          have H15 : Own.HS Z h12 ((va, .inr ((.object "java/lang/Object"), kv, (Own.tab 4 (Own.fs Vf (Own.pr 4 (Own.s0 4 c) D) v)))) :: (oa, .inr (.int, ko, (Own.tO 4 (Own.fs og 1 (Own.pr 4 (Own.s0 4 c) D))))) :: (t, o_NV (.ref na) (.ref va) (.ref oa) (.int (2 : Int32))) :: (na, .inr ((.object "java/lang/String"), kn, (Own.tN 4 (Own.fs Hf (Own.pr 4 (Own.s0 4 c) D) true) (Own.fs sf (Own.pr 4 (Own.s0 4 c) D) a)))) :: (fr ++ tl1)) := H14.pull 3 _ rfl rfl
          have H16 : Own.HS Z h12 ((na, .inr ((.object "java/lang/String"), kn, (Own.tN 4 (Own.fs Hf (Own.pr 4 (Own.s0 4 c) D) true) (Own.fs sf (Own.pr 4 (Own.s0 4 c) D) a)))) :: (va, .inr ((.object "java/lang/Object"), kv, (Own.tab 4 (Own.fs Vf (Own.pr 4 (Own.s0 4 c) D) v)))) :: (oa, .inr (.int, ko, (Own.tO 4 (Own.fs og 1 (Own.pr 4 (Own.s0 4 c) D))))) :: (t, o_NV (.ref na) (.ref va) (.ref oa) (.int (2 : Int32))) :: (fr ++ tl1)) := H15.pull 3 _ rfl rfl
          have H17 : Own.HS Z h12 ((t, o_NV (.ref na) (.ref va) (.ref oa) (.int (2 : Int32))) :: (na, .inr ((.object "java/lang/String"), kn, (Own.tN 4 (Own.fs Hf (Own.pr 4 (Own.s0 4 c) D) true) (Own.fs sf (Own.pr 4 (Own.s0 4 c) D) a)))) :: (va, .inr ((.object "java/lang/Object"), kv, (Own.tab 4 (Own.fs Vf (Own.pr 4 (Own.s0 4 c) D) v)))) :: (oa, .inr (.int, ko, (Own.tO 4 (Own.fs og 1 (Own.pr 4 (Own.s0 4 c) D))))) :: (fr ++ tl1)) := H16.pull 3 _ rfl rfl
          refine Own.W.callQ ok tb (a := t) (argsL := []) (rest := []) 137 138 35 139 140 36 rfl rfl rfl rfl rfl rfl (H17.exa (i := 0) rfl) d_prog_12_method_5_130 pd_9 (c_grow4 l tb t na va oa kn kv ko (Own.fs Kf (Own.pr 4 (Own.s0 4 c) D) c) (Own.fs Hf (Own.pr 4 (Own.s0 4 c) D) true) (Own.fs Vf (Own.pr 4 (Own.s0 4 c) D) v) (Own.fs sf (Own.pr 4 (Own.s0 4 c) D) a) (Own.fs og 1 (Own.pr 4 (Own.s0 4 c) D)) (Own.updL es c v) c0 fr tl1 h12 ((fr ++ tl1)) H17 rfl SC hc0 (ez ▸ na_.1) (na_.2.trans (congrArg (· + 1) ez)) (Own.VOK.fs hV2 hv2) (Own.SOK.fs hS2 hs2)) 0 3 20 133 ?_
          rintro _ h18 ⟨na20, va21, oa22, kn23, kv24, ko25, K26, H27, V28, s29, o30, z31, tl3, rfl, H19, hq32, hq33⟩
          show Own.W l Z _ K _ h18 3 20 133 #[.val (.ref t), .val (.ref a), .val v, .val (.int (Own.mk 4)), .val (.int ((Own.pr 4 (Own.s0 4 c) D).toInt32)), .val (Vf (Own.pr 4 (Own.s0 4 c) D))] []
          refine Own.W.aload ok d_prog_12_method_5_133 135 rfl (hV2 (Own.pr 4 (Own.s0 4 c) D)).ref ?_
          exact Own.W.aret ok d_prog_12_method_5_135 ⟨_, na20, va21, oa22, kn23, kv24, ko25, _, _, _, _, _, _, _, _, rfl, H19, (hV2 _).ref, hq32, mo.trans hq33, (by have := hq32.2.1; have := na_.2; omega)⟩ (by rcases ref_cases (hV2 (Own.pr 4 (Own.s0 4 c) D)).ref with e | ⟨_, e⟩ <;> rw [e] <;> rfl) rfl (hV2 (Own.pr 4 (Own.s0 4 c) D)).ref
        · have e1 : z = 3 := by omega
          subst e4 e1
          refine Own.W.aloadN ok d_prog_12_method_5_115 116 rfl rfl ?_
          refine Own.W.getF ok tb 100 rfl Via.refl (H13.fld (i := 0) (j := 3) rfl rfl) d_prog_12_method_5_116 119 ?_
          refine Own.W.iconst ok d_prog_12_method_5_119 120 (2 : Int32) rfl ?_
          refine Own.W.imul ok d_prog_12_method_5_120 121 ?_
          refine Own.W.aloadN ok d_prog_12_method_5_121 122 rfl rfl ?_
          refine Own.W.getF ok tb 61 rfl Via.refl (H13.fld (i := 0) (j := 0) rfl rfl) d_prog_12_method_5_122 125 ?_
          refine Own.W.alen ok H13 (i := 1) rfl d_prog_12_method_5_125 126 ((8 : Nat).toInt32) Own.lenN ?_
          refine Own.W.icmpF ok d_prog_12_method_5_126 129 (by decide : ¬ (((3 + 1 : Nat).toInt32 * (2 : Int32)) < (8 : Nat).toInt32)) ?_
          refine Own.W.aloadN ok d_prog_12_method_5_129 130 rfl rfl ?_
          have na_ := T.add (v := v) F hb
          have H34 : Own.HS Z h12 ((oa, .inr (.int, ko, (Own.tO 8 (Own.fs og 3 (Own.pr 8 (Own.s0 8 c) D))))) :: (t, o_NV (.ref na) (.ref va) (.ref oa) (.int (4 : Int32))) :: (na, .inr ((.object "java/lang/String"), kn, (Own.tN 8 (Own.fs Hf (Own.pr 8 (Own.s0 8 c) D) true) (Own.fs sf (Own.pr 8 (Own.s0 8 c) D) a)))) :: (va, .inr ((.object "java/lang/Object"), kv, (Own.tab 8 (Own.fs Vf (Own.pr 8 (Own.s0 8 c) D) v)))) :: (fr ++ tl1)) := H13.pull 3 _ rfl rfl
          have H35 : Own.HS Z h12 ((va, .inr ((.object "java/lang/Object"), kv, (Own.tab 8 (Own.fs Vf (Own.pr 8 (Own.s0 8 c) D) v)))) :: (oa, .inr (.int, ko, (Own.tO 8 (Own.fs og 3 (Own.pr 8 (Own.s0 8 c) D))))) :: (t, o_NV (.ref na) (.ref va) (.ref oa) (.int (4 : Int32))) :: (na, .inr ((.object "java/lang/String"), kn, (Own.tN 8 (Own.fs Hf (Own.pr 8 (Own.s0 8 c) D) true) (Own.fs sf (Own.pr 8 (Own.s0 8 c) D) a)))) :: (fr ++ tl1)) := H34.pull 3 _ rfl rfl
          have H36 : Own.HS Z h12 ((na, .inr ((.object "java/lang/String"), kn, (Own.tN 8 (Own.fs Hf (Own.pr 8 (Own.s0 8 c) D) true) (Own.fs sf (Own.pr 8 (Own.s0 8 c) D) a)))) :: (va, .inr ((.object "java/lang/Object"), kv, (Own.tab 8 (Own.fs Vf (Own.pr 8 (Own.s0 8 c) D) v)))) :: (oa, .inr (.int, ko, (Own.tO 8 (Own.fs og 3 (Own.pr 8 (Own.s0 8 c) D))))) :: (t, o_NV (.ref na) (.ref va) (.ref oa) (.int (4 : Int32))) :: (fr ++ tl1)) := H35.pull 3 _ rfl rfl
          have H37 : Own.HS Z h12 ((t, o_NV (.ref na) (.ref va) (.ref oa) (.int (4 : Int32))) :: (na, .inr ((.object "java/lang/String"), kn, (Own.tN 8 (Own.fs Hf (Own.pr 8 (Own.s0 8 c) D) true) (Own.fs sf (Own.pr 8 (Own.s0 8 c) D) a)))) :: (va, .inr ((.object "java/lang/Object"), kv, (Own.tab 8 (Own.fs Vf (Own.pr 8 (Own.s0 8 c) D) v)))) :: (oa, .inr (.int, ko, (Own.tO 8 (Own.fs og 3 (Own.pr 8 (Own.s0 8 c) D))))) :: (fr ++ tl1)) := H36.pull 3 _ rfl rfl
          refine Own.W.callQ ok tb (a := t) (argsL := []) (rest := []) 137 138 35 139 140 36 rfl rfl rfl rfl rfl rfl (H37.exa (i := 0) rfl) d_prog_12_method_5_130 pd_9 (c_grow8 l tb t na va oa kn kv ko (Own.fs Kf (Own.pr 8 (Own.s0 8 c) D) c) (Own.fs Hf (Own.pr 8 (Own.s0 8 c) D) true) (Own.fs Vf (Own.pr 8 (Own.s0 8 c) D) v) (Own.fs sf (Own.pr 8 (Own.s0 8 c) D) a) (Own.fs og 3 (Own.pr 8 (Own.s0 8 c) D)) (Own.updL es c v) c0 fr tl1 h12 ((fr ++ tl1)) H37 rfl SC hc0 (ez ▸ na_.1) (na_.2.trans (congrArg (· + 1) ez)) (Own.VOK.fs hV2 hv2) (Own.SOK.fs hS2 hs2)) 0 3 40 133 ?_
          rintro _ h38 ⟨na40, va41, oa42, kn43, kv44, ko45, K46, H47, V48, s49, o50, z51, tl3, rfl, H39, hq52, hq53⟩
          show Own.W l Z _ K _ h38 3 40 133 #[.val (.ref t), .val (.ref a), .val v, .val (.int (Own.mk 8)), .val (.int ((Own.pr 8 (Own.s0 8 c) D).toInt32)), .val (Vf (Own.pr 8 (Own.s0 8 c) D))] []
          refine Own.W.aload ok d_prog_12_method_5_133 135 rfl (hV2 (Own.pr 8 (Own.s0 8 c) D)).ref ?_
          exact Own.W.aret ok d_prog_12_method_5_135 ⟨_, na40, va41, oa42, kn43, kv44, ko45, _, _, _, _, _, _, _, _, rfl, H39, (hV2 _).ref, hq52, mo.trans hq53, (by have := hq52.2.1; have := na_.2; omega)⟩ (by rcases ref_cases (hV2 (Own.pr 8 (Own.s0 8 c) D)).ref with e | ⟨_, e⟩ <;> rw [e] <;> rfl) rfl (hV2 (Own.pr 8 (Own.s0 8 c) D)).ref
    | true =>
      have hk : Kf (Own.pr n (Own.s0 n c) D) = c := by
        rcases F.2.1 with q | q
        · rw [hb] at q; cases q
        · exact q
      refine Own.W.aloadN ok d_prog_12_method_5_62 63 rfl rfl ?_
      refine Own.W.getF ok tb 65 rfl Via.refl (H4.fld (i := 0) (j := 1) rfl rfl) d_prog_12_method_5_63 66 ?_
      refine Own.W.iload ok d_prog_12_method_5_66 68 rfl ?_
      refine Own.W.aald ok H4 (i := 2) rfl (Own.nng hn (Own.pr_lt hn _ _)) (Own.getV hn (Own.pr_lt hn _ _)) d_prog_12_method_5_68 69 ?_
      refine Own.W.astore ok d_prog_12_method_5_69 71 #[.val (.ref t), .val (.ref a), .val v, .val (.int (Own.mk n)), .val (.int ((Own.pr n (Own.s0 n c) D).toInt32)), .val (Vf (Own.pr n (Own.s0 n c) D))] (hV2 (Own.pr n (Own.s0 n c) D)).ref (by rcases ref_cases (hV2 (Own.pr n (Own.s0 n c) D)).ref with e | ⟨_, e⟩ <;> rw [e] <;> rfl) ?_
      refine Own.W.aloadN ok d_prog_12_method_5_71 72 rfl rfl ?_
      refine Own.W.getF ok tb 65 rfl Via.refl (H4.fld (i := 0) (j := 1) rfl rfl) d_prog_12_method_5_72 75 ?_
      refine Own.W.iload ok d_prog_12_method_5_75 77 rfl ?_
      refine Own.W.aloadN ok d_prog_12_method_5_77 78 rfl hv.ref ?_
      refine Own.W.aast ok H4 (i := 2) rfl (Own.nng hn (Own.pr_lt hn _ _)) (Own.ltT hn (Own.pr_lt hn _ _)) (Own.VOK.sto H4 (i := 2) rfl Ov Own.mem4 hv2 (tb _ (List.mem_of_getElem? (i := 99) rfl))) d_prog_12_method_5_78 79 ((t, o_NV (.ref na) (.ref va) (.ref oa) (.int (z.toInt32))) :: (na, .inr ((.object "java/lang/String"), kn, (Own.tN n Hf sf))) :: (va, .inr ((.object "java/lang/Object"), kv, (Own.tab n (Own.fs Vf (Own.pr n (Own.s0 n c) D) v)))) :: (oa, .inr (.int, ko, (Own.tO n og))) :: (fr ++ tl1)) (by rw [Own.setV hn (Own.pr_lt hn _ _)]; rfl) (fun h54 H55 => ?_)
      refine Own.W.aloadN ok d_prog_12_method_5_79 80 rfl rfl ?_
      refine Own.W.getF ok tb 61 rfl Via.refl (H55.fld (i := 0) (j := 0) rfl rfl) d_prog_12_method_5_80 83 ?_
      refine Own.W.iload ok d_prog_12_method_5_83 85 rfl ?_
      refine Own.W.aald ok H55 (i := 1) rfl (Own.nng hn (Own.pr_lt hn _ _)) (show _ = some (Value.ref (sf (Own.pr n (Own.s0 n c) D))) from Own.getN hn (Own.pr_lt hn _ _) hb) d_prog_12_method_5_85 86 ?_
      refine Own.W.ifnonnullT ok d_prog_12_method_5_86 133 ?_
      refine Own.W.aload ok d_prog_12_method_5_133 135 rfl (hV2 (Own.pr n (Own.s0 n c) D)).ref ?_
      exact Own.W.aret ok d_prog_12_method_5_135 ⟨_, na, va, oa, kn, kv, ko, n, Kf, Hf, Own.fs Vf (Own.pr n (Own.s0 n c) D) v, sf, og, z, tl1, rfl, H55, (hV2 _).ref, ⟨(T.hit F hb hk).1, (T.hit (v := v) F hb hk).2.trans ez, hz, Own.VOK.fs hV2 hv2, hS2, On, Ov⟩, mo, Nat.le_succ _⟩ (by rcases ref_cases (hV2 (Own.pr n (Own.s0 n c) D)).ref with e | ⟨_, e⟩ <;> rw [e] <;> rfl) rfl (hV2 (Own.pr n (Own.s0 n c) D)).ref
  have L : ∀ mm d, d + mm = D → Own.W l Z ({ frames := 4, cells := 3, slots := 40, locals := 92 } : Room) K (fun rr h' => ∃ (u : Value) (na2 : Addr) (va2 : Addr) (oa2 : Addr) (kn2 : ClassId) (kv2 : ClassId) (ko2 : ClassId) (n2 : Nat) (K2 : Nat → Int32) (H2 : Nat → Bool) (V2 : Nat → Value) (s2 : Nat → Addr) (o2 : Nat → Nat) (z2 : Nat) (tl2 : List (Addr × Own.Pc)), rr = some u ∧ Own.HS Z h' ((t, o_NV (.ref na2) (.ref va2) (.ref oa2) (.int (z2.toInt32))) :: (na2, .inr ((.object "java/lang/String"), kn2, (Own.tN n2 H2 s2))) :: (va2, .inr ((.object "java/lang/Object"), kv2, (Own.tab n2 V2))) :: (oa2, .inr (.int, ko2, (Own.tO n2 o2))) :: (fr ++ tl2)) ∧ u.isRef = true ∧ Own.TS Z tl2 n2 K2 H2 V2 s2 o2 (Own.updL es c v) z2 kn2 kv2 ∧ Own.Mono Z tl tl2 ∧ z2 ≤ z + 1) h1 0 0 16 #[.val (.ref t), .val (.ref a), .val v, .val (.int (Own.mk n)), .val (.int ((Own.pr n (Own.s0 n c) d).toInt32)), .unset] [] := by
    intro mm
    induction mm with
    | zero =>
      intro d hd
      have e : d = D := by omega
      rw [e]
      cases hb : Hf (Own.pr n (Own.s0 n c) D) with
      | false =>
        refine Own.W.aloadN ok d_prog_12_method_5_16 17 rfl rfl ?_
        refine Own.W.getF ok tb 61 rfl Via.refl (H4.fld (i := 0) (j := 0) rfl rfl) d_prog_12_method_5_17 20 ?_
        refine Own.W.iload ok d_prog_12_method_5_20 22 rfl ?_
        refine Own.W.aald ok H4 (i := 1) rfl (Own.nng hn (Own.pr_lt hn _ _)) (show _ = some Value.null from Own.getN hn (Own.pr_lt hn _ _) hb) d_prog_12_method_5_22 23 ?_
        refine Own.W.ifnullT ok d_prog_12_method_5_23 62 ?_
        exact J5
      | true =>
        have hk : Kf (Own.pr n (Own.s0 n c) D) = c := by
          rcases F.2.1 with q | q
          · rw [hb] at q; cases q
          · exact q
        refine Own.W.aloadN ok d_prog_12_method_5_16 17 rfl rfl ?_
        refine Own.W.getF ok tb 61 rfl Via.refl (H4.fld (i := 0) (j := 0) rfl rfl) d_prog_12_method_5_17 20 ?_
        refine Own.W.iload ok d_prog_12_method_5_20 22 rfl ?_
        refine Own.W.aald ok H4 (i := 1) rfl (Own.nng hn (Own.pr_lt hn _ _)) (show _ = some (Value.ref (sf (Own.pr n (Own.s0 n c) D))) from Own.getN hn (Own.pr_lt hn _ _) hb) d_prog_12_method_5_22 23 ?_
        refine Own.W.ifnullF ok d_prog_12_method_5_23 26 ?_
        refine Own.W.aloadN ok d_prog_12_method_5_26 27 rfl rfl ?_
        refine Own.W.getF ok tb 61 rfl Via.refl (H4.fld (i := 0) (j := 0) rfl rfl) d_prog_12_method_5_27 30 ?_
        refine Own.W.iload ok d_prog_12_method_5_30 32 rfl ?_
        refine Own.W.aald ok H4 (i := 1) rfl (Own.nng hn (Own.pr_lt hn _ _)) (show _ = some (Value.ref (sf (Own.pr n (Own.s0 n c) D))) from Own.getN hn (Own.pr_lt hn _ _) hb) d_prog_12_method_5_32 33 ?_
        have hsx := hS2 (Own.pr n (Own.s0 n c) D) hb
        by_cases ea : sf (Own.pr n (Own.s0 n c) D) = a
        · refine Own.W.aloadN ok d_prog_12_method_5_33 34 rfl rfl ?_
          refine Own.W.acmp ok d_prog_12_method_5_34 62 true (decide_eq_true (congrArg Value.ref ea)) ?_
          exact J5
        · refine Own.W.aloadN ok d_prog_12_method_5_33 34 rfl rfl ?_
          refine Own.W.acmp ok d_prog_12_method_5_34 37 false (decide_eq_false fun q => ea (Value.ref.inj q)) ?_
          refine Own.W.aloadN ok d_prog_12_method_5_37 38 rfl rfl ?_
          refine Own.W.getF ok tb 61 rfl Via.refl (H4.fld (i := 0) (j := 0) rfl rfl) d_prog_12_method_5_38 41 ?_
          refine Own.W.iload ok d_prog_12_method_5_41 43 rfl ?_
          refine Own.W.aald ok H4 (i := 1) rfl (Own.nng hn (Own.pr_lt hn _ _)) (show _ = some (Value.ref (sf (Own.pr n (Own.s0 n c) D))) from Own.getN hn (Own.pr_lt hn _ _) hb) d_prog_12_method_5_43 44 ?_
          refine Own.W.aloadN ok d_prog_12_method_5_44 45 rfl rfl ?_
          refine Own.W.callV ok tb (a := (sf (Own.pr n (Own.s0 n c) D))) (argsL := [(.ref a)]) (rest := []) 102 103 105 104 106 7 rfl rfl rfl rfl rfl rfl (notFace_of_selects (args := #[]) (mvT ok.2.1 (tb _ (List.mem_of_getElem? (i := 105) rfl)))) (Own.SOK.exa H4 Own.mem4 hsx) d_prog_12_method_5_45 pd_7 (c_seq l tb (sf (Own.pr n (Own.s0 n c) D)) a c0 (Kf (Own.pr n (Own.s0 n c) D)) c tl1 h1 ((t, o_NV (.ref na) (.ref va) (.ref oa) (.int (z.toInt32))) :: (na, .inr ((.object "java/lang/String"), kn, (Own.tN n Hf sf))) :: (va, .inr ((.object "java/lang/Object"), kv, (Own.tab n Vf))) :: (oa, .inr (.int, ko, (Own.tO n og))) :: (fr ++ tl1)) H4 Own.mem4 SC hc0 ea hsx hs2) 0 0 0 48 ?_
          rintro _ _ ⟨rfl, rfl⟩
          show Own.W l Z _ K _ h1 0 0 48 #[.val (.ref t), .val (.ref a), .val v, .val (.int (Own.mk n)), .val (.int ((Own.pr n (Own.s0 n c) D).toInt32)), .unset] [(.int (if (Kf (Own.pr n (Own.s0 n c) D)) = c then 1 else 0))]
          refine Own.W.ifT ok d_prog_12_method_5_48 62 (by rw [if_pos hk]; exact (by decide : ¬ ((1 : Int32) = 0))) ?_
          exact J5
    | succ mm ih =>
      intro d hd
      have q := F.2.2 d (by omega)
      refine Own.W.aloadN ok d_prog_12_method_5_16 17 rfl rfl ?_
      refine Own.W.getF ok tb 61 rfl Via.refl (H4.fld (i := 0) (j := 0) rfl rfl) d_prog_12_method_5_17 20 ?_
      refine Own.W.iload ok d_prog_12_method_5_20 22 rfl ?_
      refine Own.W.aald ok H4 (i := 1) rfl (Own.nng hn (Own.pr_lt hn _ _)) (show _ = some (Value.ref (sf (Own.pr n (Own.s0 n c) d))) from Own.getN hn (Own.pr_lt hn _ _) q.1) d_prog_12_method_5_22 23 ?_
      refine Own.W.ifnullF ok d_prog_12_method_5_23 26 ?_
      refine Own.W.aloadN ok d_prog_12_method_5_26 27 rfl rfl ?_
      refine Own.W.getF ok tb 61 rfl Via.refl (H4.fld (i := 0) (j := 0) rfl rfl) d_prog_12_method_5_27 30 ?_
      refine Own.W.iload ok d_prog_12_method_5_30 32 rfl ?_
      refine Own.W.aald ok H4 (i := 1) rfl (Own.nng hn (Own.pr_lt hn _ _)) (show _ = some (Value.ref (sf (Own.pr n (Own.s0 n c) d))) from Own.getN hn (Own.pr_lt hn _ _) q.1) d_prog_12_method_5_32 33 ?_
      have hsx := hS2 (Own.pr n (Own.s0 n c) d) q.1
      have ea : ¬ (sf (Own.pr n (Own.s0 n c) d) = a) := fun e => q.2 (Own.SOK.uniq H4 Own.mem4 (e ▸ hsx) hs2)
      refine Own.W.aloadN ok d_prog_12_method_5_33 34 rfl rfl ?_
      refine Own.W.acmp ok d_prog_12_method_5_34 37 false (decide_eq_false fun q => ea (Value.ref.inj q)) ?_
      refine Own.W.aloadN ok d_prog_12_method_5_37 38 rfl rfl ?_
      refine Own.W.getF ok tb 61 rfl Via.refl (H4.fld (i := 0) (j := 0) rfl rfl) d_prog_12_method_5_38 41 ?_
      refine Own.W.iload ok d_prog_12_method_5_41 43 rfl ?_
      refine Own.W.aald ok H4 (i := 1) rfl (Own.nng hn (Own.pr_lt hn _ _)) (show _ = some (Value.ref (sf (Own.pr n (Own.s0 n c) d))) from Own.getN hn (Own.pr_lt hn _ _) q.1) d_prog_12_method_5_43 44 ?_
      refine Own.W.aloadN ok d_prog_12_method_5_44 45 rfl rfl ?_
      refine Own.W.callV ok tb (a := (sf (Own.pr n (Own.s0 n c) d))) (argsL := [(.ref a)]) (rest := []) 102 103 105 104 106 7 rfl rfl rfl rfl rfl rfl (notFace_of_selects (args := #[]) (mvT ok.2.1 (tb _ (List.mem_of_getElem? (i := 105) rfl)))) (Own.SOK.exa H4 Own.mem4 hsx) d_prog_12_method_5_45 pd_7 (c_seq l tb (sf (Own.pr n (Own.s0 n c) d)) a c0 (Kf (Own.pr n (Own.s0 n c) d)) c tl1 h1 ((t, o_NV (.ref na) (.ref va) (.ref oa) (.int (z.toInt32))) :: (na, .inr ((.object "java/lang/String"), kn, (Own.tN n Hf sf))) :: (va, .inr ((.object "java/lang/Object"), kv, (Own.tab n Vf))) :: (oa, .inr (.int, ko, (Own.tO n og))) :: (fr ++ tl1)) H4 Own.mem4 SC hc0 ea hsx hs2) 0 0 0 48 ?_
      rintro _ _ ⟨rfl, rfl⟩
      show Own.W l Z _ K _ h1 0 0 48 #[.val (.ref t), .val (.ref a), .val v, .val (.int (Own.mk n)), .val (.int ((Own.pr n (Own.s0 n c) d).toInt32)), .unset] [(.int (if (Kf (Own.pr n (Own.s0 n c) d)) = c then 1 else 0))]
      refine Own.W.ifF ok d_prog_12_method_5_48 51 (if_neg q.2) ?_
      refine Own.W.iload ok d_prog_12_method_5_51 53 rfl ?_
      refine Own.W.iconst ok d_prog_12_method_5_53 54 (1 : Int32) rfl ?_
      refine Own.W.iadd ok d_prog_12_method_5_54 55 ?_
      refine Own.W.iloadN ok d_prog_12_method_5_55 56 rfl ?_
      refine Own.W.iandV ok d_prog_12_method_5_56 57 ((Own.pr n (Own.s0 n c) (d + 1)).toInt32) (Own.nx hn _ _) ?_
      refine Own.W.istore ok d_prog_12_method_5_57 59 #[.val (.ref t), .val (.ref a), .val v, .val (.int (Own.mk n)), .val (.int ((Own.pr n (Own.s0 n c) (d + 1)).toInt32)), .unset] rfl ?_
      refine Own.W.goto ok d_prog_12_method_5_59 16 ?_
      exact ih (d + 1) (by omega)
  exact L D 0 (Nat.zero_add _)
set_option maxRecDepth 65536 in
set_option maxHeartbeats 4000000 in
theorem c_ival (l : Launch) {Z : State} {a0 : Array Value} (tb : Own.Tb Z a0 tables_1) (q : Int32) (ca : Addr) (ccl : Cell) (fr : List (Addr × Own.Pc)) (tl : List (Addr × Own.Pc)) (h : Heap) (cs : List (Addr × Own.Pc)) (H : Own.HS Z h (cs)) (ecs : cs = fr ++ tl) (SH : Sta Z Z.heap "java/lang/Integer$IntegerCache" "high" "I" (.int (127 : Int32))) (SCA : Sta Z Z.heap "java/lang/Integer$IntegerCache" "cache" "[Ljava/lang/Integer;" (.ref ca)) (BX : Own.BX Z ca ccl) (q1 : ¬ (q < (-128 : Int32))) (q2 : ¬ ((127 : Int32) < q)) :
    Own.Con l Z (⟨"java/lang/Integer", "valueOf", "(I)Ljava/lang/Integer;"⟩ : MethodName) jdk_33_method_22_code 1 (some (.object "java/lang/Integer")) ({ frames := 3, cells := 1, slots := 1, locals := 48 } : Room) #[(.int q)] h (fun rr h' => ∃ (u : Value) (tl2 : List (Addr × Own.Pc)), rr = some u ∧ Own.HS Z h' ((fr ++ tl2)) ∧ Own.VI Z tl2 u q ∧ Own.Mono Z tl tl2) := by
  refine Own.Con.of (plainFor_of_name (by first | (simp [plainName, overriddenIn]; done) | decide +kernel)) #[.val (.int q)] (fun m => by first | rfl | (simp [entryFrame, mkF, argsToLocals, Value.category, maxLocals]; done)) (fun K ok => ?_)
  subst ecs
  refine Own.W.iloadN ok d_jdk_33_method_22_0 1 rfl ?_
  refine Own.W.bipush ok d_jdk_33_method_22_1 3 (-128 : Int32) rfl ?_
  refine Own.W.icmpF ok d_jdk_33_method_22_3 6 q1 ?_
  refine Own.W.iloadN ok d_jdk_33_method_22_6 7 rfl ?_
  refine Own.W.getS ok tb 73 rfl Via.refl (H.sta SH) d_jdk_33_method_22_7 10 ?_
  refine Own.W.icmpF ok d_jdk_33_method_22_10 13 q2 ?_
  refine Own.W.getS ok tb 75 rfl Via.refl (H.sta SCA) d_jdk_33_method_22_13 16 ?_
  refine Own.W.iloadN ok d_jdk_33_method_22_16 17 rfl ?_
  refine Own.W.sipush ok d_jdk_33_method_22_17 20 (128 : Int32) rfl ?_
  refine Own.W.iadd ok d_jdk_33_method_22_20 21 ?_
  obtain ⟨hj, b, hb, hi⟩ := Own.BX.get (tl := tl) BX q1 q2
  refine Own.W.aaldA ok (BX.1.ext H.1) hj hb d_jdk_33_method_22_21 22 ?_
  exact Own.W.aret ok d_jdk_33_method_22_22 ⟨_, tl, rfl, H, hi, Own.Mono.refl⟩
set_option maxRecDepth 65536 in
set_option maxHeartbeats 4000000 in
theorem c_size (l : Launch) {Z : State} {a0 : Array Value} (tb : Own.Tb Z a0 tables_1) (t : Addr) (na : Addr) (va : Addr) (oa : Addr) (zI : Int32) (h : Heap) (cs : List (Addr × Own.Pc)) (H : Own.HS Z h ((t, o_NV (.ref na) (.ref va) (.ref oa) (.int zI)) :: cs)) :
    Own.Con l Z (⟨"com/example/vestwright/vestwright/NamedValues", "size", "()I"⟩ : MethodName) prog_12_method_7_code 1 (some .int) ({ frames := 0, cells := 0, slots := 0, locals := 0 } : Room) #[(.ref t)] h (fun rr h' => rr = some (.int zI) ∧ h = h') := by
  refine Own.Con.of (plainFor_of_name (by first | (simp [plainName, overriddenIn]; done) | decide +kernel)) #[.val (.ref t)] (fun m => by first | rfl | (simp [entryFrame, mkF, argsToLocals, Value.category, maxLocals]; done)) (fun K ok => ?_)
  refine Own.W.aloadN ok d_prog_12_method_7_0 1 rfl rfl ?_
  refine Own.W.getF ok tb 100 rfl Via.refl (H.fld (i := 0) (j := 3) rfl rfl) d_prog_12_method_7_1 4 ?_
  exact Own.W.iret ok d_prog_12_method_7_4 rfl ⟨rfl, rfl⟩
set_option maxRecDepth 65536 in
set_option maxHeartbeats 4000000 in
theorem c_max (l : Launch) {Z : State} {a0 : Array Value} (tb : Own.Tb Z a0 tables_1) (p : Int32) (q : Int32) (r : Int32) (h : Heap) (hr : (if p < q then q else p) = r) :
    Own.Con l Z (⟨"java/lang/Math", "max", "(II)I"⟩ : MethodName) jdk_29_method_65_code 2 (some .int) ({ frames := 0, cells := 0, slots := 0, locals := 0 } : Room) #[(.int p), (.int q)] h (fun rr h' => rr = some (.int r) ∧ h = h') := by
  refine Own.Con.of (Jvm.Free.JP.mathPlain rfl (by decide +kernel)) #[.val (.int p), .val (.int q)] (fun m => by first | rfl | (simp [entryFrame, mkF, argsToLocals, Value.category, maxLocals]; done)) (fun K ok => ?_)
  refine Own.W.iloadN ok d_jdk_29_method_65_0 1 rfl ?_
  refine Own.W.iloadN ok d_jdk_29_method_65_1 2 rfl ?_
  refine Own.W.icmp ok d_jdk_29_method_65_2 9 5 (fun (hc1 : p < q) => ?_) (fun (hc1 : ¬ (p < q)) => ?_)
  · refine Own.W.iloadN ok d_jdk_29_method_65_9 10 rfl ?_
    exact Own.W.iret ok d_jdk_29_method_65_10 rfl ⟨by rw [← hr, if_pos hc1], rfl⟩
  · refine Own.W.iloadN ok d_jdk_29_method_65_5 6 rfl ?_
    refine Own.W.goto ok d_jdk_29_method_65_6 10 ?_
    exact Own.W.iret ok d_jdk_29_method_65_10 rfl ⟨by rw [← hr, if_neg hc1], rfl⟩
set_option maxRecDepth 65536 in
set_option maxHeartbeats 4000000 in
theorem c_nlz2 (l : Launch) {Z : State} {a0 : Array Value} (tb : Own.Tb Z a0 tables_1)  (h : Heap) :
    Own.Con l Z (⟨"java/lang/Integer", "numberOfLeadingZeros", "(I)I"⟩ : MethodName) jdk_33_method_47_code 2 (some .int) ({ frames := 0, cells := 0, slots := 0, locals := 0 } : Room) #[(.int (2 : Int32))] h (fun rr h' => rr = some (.int (30 : Int32)) ∧ h = h') := by
  refine Own.Con.of (plainFor_of_name (by first | (simp [plainName, overriddenIn]; done) | decide +kernel)) #[.val (.int (2 : Int32)), .unset] (fun m => by first | rfl | (simp [entryFrame, mkF, argsToLocals, Value.category, maxLocals]; done)) (fun K ok => ?_)
  refine Own.W.iloadN ok d_jdk_33_method_47_0 1 rfl ?_
  refine Own.W.ifT ok d_jdk_33_method_47_1 15 (by decide : (0 : Int32) < (2 : Int32)) ?_
  refine Own.W.bipush ok d_jdk_33_method_47_15 17 (31 : Int32) rfl ?_
  refine Own.W.istoreN ok d_jdk_33_method_47_17 18 #[.val (.int (2 : Int32)), .val (.int (31 : Int32))] rfl ?_
  refine Own.W.iloadN ok d_jdk_33_method_47_18 19 rfl ?_
  refine Own.W.ldcw ok tb 58 rfl d_jdk_33_method_47_19 22 ?_
  refine Own.W.icmpT ok d_jdk_33_method_47_22 33 (by decide : (2 : Int32) < (65536 : Int32)) ?_
  refine Own.W.iloadN ok d_jdk_33_method_47_33 34 rfl ?_
  refine Own.W.sipush ok d_jdk_33_method_47_34 37 (256 : Int32) rfl ?_
  refine Own.W.icmpT ok d_jdk_33_method_47_37 48 (by decide : (2 : Int32) < (256 : Int32)) ?_
  refine Own.W.iloadN ok d_jdk_33_method_47_48 49 rfl ?_
  refine Own.W.bipush ok d_jdk_33_method_47_49 51 (16 : Int32) rfl ?_
  refine Own.W.icmpT ok d_jdk_33_method_47_51 61 (by decide : (2 : Int32) < (16 : Int32)) ?_
  refine Own.W.iloadN ok d_jdk_33_method_47_61 62 rfl ?_
  refine Own.W.iconst ok d_jdk_33_method_47_62 63 (4 : Int32) rfl ?_
  refine Own.W.icmpT ok d_jdk_33_method_47_63 73 (by decide : (2 : Int32) < (4 : Int32)) ?_
  refine Own.W.iloadN ok d_jdk_33_method_47_73 74 rfl ?_
  refine Own.W.iloadN ok d_jdk_33_method_47_74 75 rfl ?_
  refine Own.W.iconst ok d_jdk_33_method_47_75 76 (1 : Int32) rfl ?_
  refine Own.W.iushrV ok d_jdk_33_method_47_76 77 (1 : Int32) (by decide) ?_
  refine Own.W.isubV ok d_jdk_33_method_47_77 78 (30 : Int32) (by decide) ?_
  exact Own.W.iret ok d_jdk_33_method_47_78 rfl ⟨rfl, rfl⟩
set_option maxRecDepth 65536 in
set_option maxHeartbeats 4000000 in
theorem c_hob2 (l : Launch) {Z : State} {a0 : Array Value} (tb : Own.Tb Z a0 tables_1)  (h : Heap) :
    Own.Con l Z (⟨"java/lang/Integer", "highestOneBit", "(I)I"⟩ : MethodName) jdk_33_method_45_code 1 (some .int) ({ frames := 1, cells := 0, slots := 0, locals := 20 } : Room) #[(.int (2 : Int32))] h (fun rr h' => rr = some (.int (2 : Int32)) ∧ h = h') := by
  refine Own.Con.of (plainFor_of_name (by first | (simp [plainName, overriddenIn]; done) | decide +kernel)) #[.val (.int (2 : Int32))] (fun m => by first | rfl | (simp [entryFrame, mkF, argsToLocals, Value.category, maxLocals]; done)) (fun K ok => ?_)
  refine Own.W.iloadN ok d_jdk_33_method_45_0 1 rfl ?_
  refine Own.W.ldc ok tb 54 rfl d_jdk_33_method_45_1 3 ?_
  refine Own.W.iloadN ok d_jdk_33_method_45_3 4 rfl ?_
  refine Own.W.callS ok tb (argsL := [(.int (2 : Int32))]) (rest := [(.int (-2147483648 : Int32)), (.int (2 : Int32))]) 55 56 52 57 rfl rfl rfl rfl d_jdk_33_method_45_4 pd_10 (c_nlz2 l tb  h) 2 0 0 7 ?_
  rintro _ _ ⟨rfl, rfl⟩
  show Own.W l Z _ K _ h 0 0 7 #[.val (.int (2 : Int32))] [(.int (30 : Int32)), (.int (-2147483648 : Int32)), (.int (2 : Int32))]
  refine Own.W.iushrV ok d_jdk_33_method_45_7 8 (2 : Int32) (by decide) ?_
  refine Own.W.iandV ok d_jdk_33_method_45_8 9 (2 : Int32) (by decide) ?_
  exact Own.W.iret ok d_jdk_33_method_45_9 rfl ⟨rfl, rfl⟩
set_option maxRecDepth 65536 in
set_option maxHeartbeats 4000000 in
theorem c_nlz4 (l : Launch) {Z : State} {a0 : Array Value} (tb : Own.Tb Z a0 tables_1)  (h : Heap) :
    Own.Con l Z (⟨"java/lang/Integer", "numberOfLeadingZeros", "(I)I"⟩ : MethodName) jdk_33_method_47_code 2 (some .int) ({ frames := 0, cells := 0, slots := 0, locals := 0 } : Room) #[(.int (4 : Int32))] h (fun rr h' => rr = some (.int (29 : Int32)) ∧ h = h') := by
  refine Own.Con.of (plainFor_of_name (by first | (simp [plainName, overriddenIn]; done) | decide +kernel)) #[.val (.int (4 : Int32)), .unset] (fun m => by first | rfl | (simp [entryFrame, mkF, argsToLocals, Value.category, maxLocals]; done)) (fun K ok => ?_)
  refine Own.W.iloadN ok d_jdk_33_method_47_0 1 rfl ?_
  refine Own.W.ifT ok d_jdk_33_method_47_1 15 (by decide : (0 : Int32) < (4 : Int32)) ?_
  refine Own.W.bipush ok d_jdk_33_method_47_15 17 (31 : Int32) rfl ?_
  refine Own.W.istoreN ok d_jdk_33_method_47_17 18 #[.val (.int (4 : Int32)), .val (.int (31 : Int32))] rfl ?_
  refine Own.W.iloadN ok d_jdk_33_method_47_18 19 rfl ?_
  refine Own.W.ldcw ok tb 58 rfl d_jdk_33_method_47_19 22 ?_
  refine Own.W.icmpT ok d_jdk_33_method_47_22 33 (by decide : (4 : Int32) < (65536 : Int32)) ?_
  refine Own.W.iloadN ok d_jdk_33_method_47_33 34 rfl ?_
  refine Own.W.sipush ok d_jdk_33_method_47_34 37 (256 : Int32) rfl ?_
  refine Own.W.icmpT ok d_jdk_33_method_47_37 48 (by decide : (4 : Int32) < (256 : Int32)) ?_
  refine Own.W.iloadN ok d_jdk_33_method_47_48 49 rfl ?_
  refine Own.W.bipush ok d_jdk_33_method_47_49 51 (16 : Int32) rfl ?_
  refine Own.W.icmpT ok d_jdk_33_method_47_51 61 (by decide : (4 : Int32) < (16 : Int32)) ?_
  refine Own.W.iloadN ok d_jdk_33_method_47_61 62 rfl ?_
  refine Own.W.iconst ok d_jdk_33_method_47_62 63 (4 : Int32) rfl ?_
  refine Own.W.icmpF ok d_jdk_33_method_47_63 66 (by decide : ¬ ((4 : Int32) < (4 : Int32))) ?_
  refine Own.W.iinc ok d_jdk_33_method_47_66 69 (29 : Int32) #[.val (.int (4 : Int32)), .val (.int (29 : Int32))] rfl (by decide) rfl ?_
  refine Own.W.iloadN ok d_jdk_33_method_47_69 70 rfl ?_
  refine Own.W.iconst ok d_jdk_33_method_47_70 71 (2 : Int32) rfl ?_
  refine Own.W.iushrV ok d_jdk_33_method_47_71 72 (1 : Int32) (by decide) ?_
  refine Own.W.istoreN ok d_jdk_33_method_47_72 73 #[.val (.int (1 : Int32)), .val (.int (29 : Int32))] rfl ?_
  refine Own.W.iloadN ok d_jdk_33_method_47_73 74 rfl ?_
  refine Own.W.iloadN ok d_jdk_33_method_47_74 75 rfl ?_
  refine Own.W.iconst ok d_jdk_33_method_47_75 76 (1 : Int32) rfl ?_
  refine Own.W.iushrV ok d_jdk_33_method_47_76 77 (0 : Int32) (by decide) ?_
  refine Own.W.isubV ok d_jdk_33_method_47_77 78 (29 : Int32) (by decide) ?_
  exact Own.W.iret ok d_jdk_33_method_47_78 rfl ⟨rfl, rfl⟩
set_option maxRecDepth 65536 in
set_option maxHeartbeats 4000000 in
theorem c_hob4 (l : Launch) {Z : State} {a0 : Array Value} (tb : Own.Tb Z a0 tables_1)  (h : Heap) :
    Own.Con l Z (⟨"java/lang/Integer", "highestOneBit", "(I)I"⟩ : MethodName) jdk_33_method_45_code 1 (some .int) ({ frames := 1, cells := 0, slots := 0, locals := 20 } : Room) #[(.int (4 : Int32))] h (fun rr h' => rr = some (.int (4 : Int32)) ∧ h = h') := by
  refine Own.Con.of (plainFor_of_name (by first | (simp [plainName, overriddenIn]; done) | decide +kernel)) #[.val (.int (4 : Int32))] (fun m => by first | rfl | (simp [entryFrame, mkF, argsToLocals, Value.category, maxLocals]; done)) (fun K ok => ?_)
  refine Own.W.iloadN ok d_jdk_33_method_45_0 1 rfl ?_
  refine Own.W.ldc ok tb 54 rfl d_jdk_33_method_45_1 3 ?_
  refine Own.W.iloadN ok d_jdk_33_method_45_3 4 rfl ?_
  refine Own.W.callS ok tb (argsL := [(.int (4 : Int32))]) (rest := [(.int (-2147483648 : Int32)), (.int (4 : Int32))]) 55 56 52 57 rfl rfl rfl rfl d_jdk_33_method_45_4 pd_10 (c_nlz4 l tb  h) 2 0 0 7 ?_
  rintro _ _ ⟨rfl, rfl⟩
  show Own.W l Z _ K _ h 0 0 7 #[.val (.int (4 : Int32))] [(.int (29 : Int32)), (.int (-2147483648 : Int32)), (.int (4 : Int32))]
  refine Own.W.iushrV ok d_jdk_33_method_45_7 8 (4 : Int32) (by decide) ?_
  refine Own.W.iandV ok d_jdk_33_method_45_8 9 (4 : Int32) (by decide) ?_
  exact Own.W.iret ok d_jdk_33_method_45_9 rfl ⟨rfl, rfl⟩
set_option maxRecDepth 65536 in
set_option maxHeartbeats 4000000 in
theorem c_nlz6 (l : Launch) {Z : State} {a0 : Array Value} (tb : Own.Tb Z a0 tables_1)  (h : Heap) :
    Own.Con l Z (⟨"java/lang/Integer", "numberOfLeadingZeros", "(I)I"⟩ : MethodName) jdk_33_method_47_code 2 (some .int) ({ frames := 0, cells := 0, slots := 0, locals := 0 } : Room) #[(.int (6 : Int32))] h (fun rr h' => rr = some (.int (29 : Int32)) ∧ h = h') := by
  refine Own.Con.of (plainFor_of_name (by first | (simp [plainName, overriddenIn]; done) | decide +kernel)) #[.val (.int (6 : Int32)), .unset] (fun m => by first | rfl | (simp [entryFrame, mkF, argsToLocals, Value.category, maxLocals]; done)) (fun K ok => ?_)
  refine Own.W.iloadN ok d_jdk_33_method_47_0 1 rfl ?_
  refine Own.W.ifT ok d_jdk_33_method_47_1 15 (by decide : (0 : Int32) < (6 : Int32)) ?_
  refine Own.W.bipush ok d_jdk_33_method_47_15 17 (31 : Int32) rfl ?_
  refine Own.W.istoreN ok d_jdk_33_method_47_17 18 #[.val (.int (6 : Int32)), .val (.int (31 : Int32))] rfl ?_
  refine Own.W.iloadN ok d_jdk_33_method_47_18 19 rfl ?_
  refine Own.W.ldcw ok tb 58 rfl d_jdk_33_method_47_19 22 ?_
  refine Own.W.icmpT ok d_jdk_33_method_47_22 33 (by decide : (6 : Int32) < (65536 : Int32)) ?_
  refine Own.W.iloadN ok d_jdk_33_method_47_33 34 rfl ?_
  refine Own.W.sipush ok d_jdk_33_method_47_34 37 (256 : Int32) rfl ?_
  refine Own.W.icmpT ok d_jdk_33_method_47_37 48 (by decide : (6 : Int32) < (256 : Int32)) ?_
  refine Own.W.iloadN ok d_jdk_33_method_47_48 49 rfl ?_
  refine Own.W.bipush ok d_jdk_33_method_47_49 51 (16 : Int32) rfl ?_
  refine Own.W.icmpT ok d_jdk_33_method_47_51 61 (by decide : (6 : Int32) < (16 : Int32)) ?_
  refine Own.W.iloadN ok d_jdk_33_method_47_61 62 rfl ?_
  refine Own.W.iconst ok d_jdk_33_method_47_62 63 (4 : Int32) rfl ?_
  refine Own.W.icmpF ok d_jdk_33_method_47_63 66 (by decide : ¬ ((6 : Int32) < (4 : Int32))) ?_
  refine Own.W.iinc ok d_jdk_33_method_47_66 69 (29 : Int32) #[.val (.int (6 : Int32)), .val (.int (29 : Int32))] rfl (by decide) rfl ?_
  refine Own.W.iloadN ok d_jdk_33_method_47_69 70 rfl ?_
  refine Own.W.iconst ok d_jdk_33_method_47_70 71 (2 : Int32) rfl ?_
  refine Own.W.iushrV ok d_jdk_33_method_47_71 72 (1 : Int32) (by decide) ?_
  refine Own.W.istoreN ok d_jdk_33_method_47_72 73 #[.val (.int (1 : Int32)), .val (.int (29 : Int32))] rfl ?_
  refine Own.W.iloadN ok d_jdk_33_method_47_73 74 rfl ?_
  refine Own.W.iloadN ok d_jdk_33_method_47_74 75 rfl ?_
  refine Own.W.iconst ok d_jdk_33_method_47_75 76 (1 : Int32) rfl ?_
  refine Own.W.iushrV ok d_jdk_33_method_47_76 77 (0 : Int32) (by decide) ?_
  refine Own.W.isubV ok d_jdk_33_method_47_77 78 (29 : Int32) (by decide) ?_
  exact Own.W.iret ok d_jdk_33_method_47_78 rfl ⟨rfl, rfl⟩
set_option maxRecDepth 65536 in
set_option maxHeartbeats 4000000 in
theorem c_hob6 (l : Launch) {Z : State} {a0 : Array Value} (tb : Own.Tb Z a0 tables_1)  (h : Heap) :
    Own.Con l Z (⟨"java/lang/Integer", "highestOneBit", "(I)I"⟩ : MethodName) jdk_33_method_45_code 1 (some .int) ({ frames := 1, cells := 0, slots := 0, locals := 20 } : Room) #[(.int (6 : Int32))] h (fun rr h' => rr = some (.int (4 : Int32)) ∧ h = h') := by
  refine Own.Con.of (plainFor_of_name (by first | (simp [plainName, overriddenIn]; done) | decide +kernel)) #[.val (.int (6 : Int32))] (fun m => by first | rfl | (simp [entryFrame, mkF, argsToLocals, Value.category, maxLocals]; done)) (fun K ok => ?_)
  refine Own.W.iloadN ok d_jdk_33_method_45_0 1 rfl ?_
  refine Own.W.ldc ok tb 54 rfl d_jdk_33_method_45_1 3 ?_
  refine Own.W.iloadN ok d_jdk_33_method_45_3 4 rfl ?_
  refine Own.W.callS ok tb (argsL := [(.int (6 : Int32))]) (rest := [(.int (-2147483648 : Int32)), (.int (6 : Int32))]) 55 56 52 57 rfl rfl rfl rfl d_jdk_33_method_45_4 pd_10 (c_nlz6 l tb  h) 2 0 0 7 ?_
  rintro _ _ ⟨rfl, rfl⟩
  show Own.W l Z _ K _ h 0 0 7 #[.val (.int (6 : Int32))] [(.int (29 : Int32)), (.int (-2147483648 : Int32)), (.int (6 : Int32))]
  refine Own.W.iushrV ok d_jdk_33_method_45_7 8 (4 : Int32) (by decide) ?_
  refine Own.W.iandV ok d_jdk_33_method_45_8 9 (4 : Int32) (by decide) ?_
  exact Own.W.iret ok d_jdk_33_method_45_9 rfl ⟨rfl, rfl⟩
set_option maxRecDepth 65536 in
set_option maxHeartbeats 4000000 in
theorem c_nlz8 (l : Launch) {Z : State} {a0 : Array Value} (tb : Own.Tb Z a0 tables_1)  (h : Heap) :
    Own.Con l Z (⟨"java/lang/Integer", "numberOfLeadingZeros", "(I)I"⟩ : MethodName) jdk_33_method_47_code 2 (some .int) ({ frames := 0, cells := 0, slots := 0, locals := 0 } : Room) #[(.int (8 : Int32))] h (fun rr h' => rr = some (.int (28 : Int32)) ∧ h = h') := by
  refine Own.Con.of (plainFor_of_name (by first | (simp [plainName, overriddenIn]; done) | decide +kernel)) #[.val (.int (8 : Int32)), .unset] (fun m => by first | rfl | (simp [entryFrame, mkF, argsToLocals, Value.category, maxLocals]; done)) (fun K ok => ?_)
  refine Own.W.iloadN ok d_jdk_33_method_47_0 1 rfl ?_
  refine Own.W.ifT ok d_jdk_33_method_47_1 15 (by decide : (0 : Int32) < (8 : Int32)) ?_
  refine Own.W.bipush ok d_jdk_33_method_47_15 17 (31 : Int32) rfl ?_
  refine Own.W.istoreN ok d_jdk_33_method_47_17 18 #[.val (.int (8 : Int32)), .val (.int (31 : Int32))] rfl ?_
  refine Own.W.iloadN ok d_jdk_33_method_47_18 19 rfl ?_
  refine Own.W.ldcw ok tb 58 rfl d_jdk_33_method_47_19 22 ?_
  refine Own.W.icmpT ok d_jdk_33_method_47_22 33 (by decide : (8 : Int32) < (65536 : Int32)) ?_
  refine Own.W.iloadN ok d_jdk_33_method_47_33 34 rfl ?_
  refine Own.W.sipush ok d_jdk_33_method_47_34 37 (256 : Int32) rfl ?_
  refine Own.W.icmpT ok d_jdk_33_method_47_37 48 (by decide : (8 : Int32) < (256 : Int32)) ?_
  refine Own.W.iloadN ok d_jdk_33_method_47_48 49 rfl ?_
  refine Own.W.bipush ok d_jdk_33_method_47_49 51 (16 : Int32) rfl ?_
  refine Own.W.icmpT ok d_jdk_33_method_47_51 61 (by decide : (8 : Int32) < (16 : Int32)) ?_
  refine Own.W.iloadN ok d_jdk_33_method_47_61 62 rfl ?_
  refine Own.W.iconst ok d_jdk_33_method_47_62 63 (4 : Int32) rfl ?_
  refine Own.W.icmpF ok d_jdk_33_method_47_63 66 (by decide : ¬ ((8 : Int32) < (4 : Int32))) ?_
  refine Own.W.iinc ok d_jdk_33_method_47_66 69 (29 : Int32) #[.val (.int (8 : Int32)), .val (.int (29 : Int32))] rfl (by decide) rfl ?_
  refine Own.W.iloadN ok d_jdk_33_method_47_69 70 rfl ?_
  refine Own.W.iconst ok d_jdk_33_method_47_70 71 (2 : Int32) rfl ?_
  refine Own.W.iushrV ok d_jdk_33_method_47_71 72 (2 : Int32) (by decide) ?_
  refine Own.W.istoreN ok d_jdk_33_method_47_72 73 #[.val (.int (2 : Int32)), .val (.int (29 : Int32))] rfl ?_
  refine Own.W.iloadN ok d_jdk_33_method_47_73 74 rfl ?_
  refine Own.W.iloadN ok d_jdk_33_method_47_74 75 rfl ?_
  refine Own.W.iconst ok d_jdk_33_method_47_75 76 (1 : Int32) rfl ?_
  refine Own.W.iushrV ok d_jdk_33_method_47_76 77 (1 : Int32) (by decide) ?_
  refine Own.W.isubV ok d_jdk_33_method_47_77 78 (28 : Int32) (by decide) ?_
  exact Own.W.iret ok d_jdk_33_method_47_78 rfl ⟨rfl, rfl⟩
set_option maxRecDepth 65536 in
set_option maxHeartbeats 4000000 in
theorem c_hob8 (l : Launch) {Z : State} {a0 : Array Value} (tb : Own.Tb Z a0 tables_1)  (h : Heap) :
    Own.Con l Z (⟨"java/lang/Integer", "highestOneBit", "(I)I"⟩ : MethodName) jdk_33_method_45_code 1 (some .int) ({ frames := 1, cells := 0, slots := 0, locals := 20 } : Room) #[(.int (8 : Int32))] h (fun rr h' => rr = some (.int (8 : Int32)) ∧ h = h') := by
  refine Own.Con.of (plainFor_of_name (by first | (simp [plainName, overriddenIn]; done) | decide +kernel)) #[.val (.int (8 : Int32))] (fun m => by first | rfl | (simp [entryFrame, mkF, argsToLocals, Value.category, maxLocals]; done)) (fun K ok => ?_)
  refine Own.W.iloadN ok d_jdk_33_method_45_0 1 rfl ?_
  refine Own.W.ldc ok tb 54 rfl d_jdk_33_method_45_1 3 ?_
  refine Own.W.iloadN ok d_jdk_33_method_45_3 4 rfl ?_
  refine Own.W.callS ok tb (argsL := [(.int (8 : Int32))]) (rest := [(.int (-2147483648 : Int32)), (.int (8 : Int32))]) 55 56 52 57 rfl rfl rfl rfl d_jdk_33_method_45_4 pd_10 (c_nlz8 l tb  h) 2 0 0 7 ?_
  rintro _ _ ⟨rfl, rfl⟩
  show Own.W l Z _ K _ h 0 0 7 #[.val (.int (8 : Int32))] [(.int (28 : Int32)), (.int (-2147483648 : Int32)), (.int (8 : Int32))]
  refine Own.W.iushrV ok d_jdk_33_method_45_7 8 (8 : Int32) (by decide) ?_
  refine Own.W.iandV ok d_jdk_33_method_45_8 9 (8 : Int32) (by decide) ?_
  exact Own.W.iret ok d_jdk_33_method_45_9 rfl ⟨rfl, rfl⟩
set_option maxRecDepth 65536 in
set_option maxHeartbeats 4000000 in
theorem c_nlz10 (l : Launch) {Z : State} {a0 : Array Value} (tb : Own.Tb Z a0 tables_1)  (h : Heap) :
    Own.Con l Z (⟨"java/lang/Integer", "numberOfLeadingZeros", "(I)I"⟩ : MethodName) jdk_33_method_47_code 2 (some .int) ({ frames := 0, cells := 0, slots := 0, locals := 0 } : Room) #[(.int (10 : Int32))] h (fun rr h' => rr = some (.int (28 : Int32)) ∧ h = h') := by
  refine Own.Con.of (plainFor_of_name (by first | (simp [plainName, overriddenIn]; done) | decide +kernel)) #[.val (.int (10 : Int32)), .unset] (fun m => by first | rfl | (simp [entryFrame, mkF, argsToLocals, Value.category, maxLocals]; done)) (fun K ok => ?_)
  refine Own.W.iloadN ok d_jdk_33_method_47_0 1 rfl ?_
  refine Own.W.ifT ok d_jdk_33_method_47_1 15 (by decide : (0 : Int32) < (10 : Int32)) ?_
  refine Own.W.bipush ok d_jdk_33_method_47_15 17 (31 : Int32) rfl ?_
  refine Own.W.istoreN ok d_jdk_33_method_47_17 18 #[.val (.int (10 : Int32)), .val (.int (31 : Int32))] rfl ?_
  refine Own.W.iloadN ok d_jdk_33_method_47_18 19 rfl ?_
  refine Own.W.ldcw ok tb 58 rfl d_jdk_33_method_47_19 22 ?_
  refine Own.W.icmpT ok d_jdk_33_method_47_22 33 (by decide : (10 : Int32) < (65536 : Int32)) ?_
  refine Own.W.iloadN ok d_jdk_33_method_47_33 34 rfl ?_
  refine Own.W.sipush ok d_jdk_33_method_47_34 37 (256 : Int32) rfl ?_
  refine Own.W.icmpT ok d_jdk_33_method_47_37 48 (by decide : (10 : Int32) < (256 : Int32)) ?_
  refine Own.W.iloadN ok d_jdk_33_method_47_48 49 rfl ?_
  refine Own.W.bipush ok d_jdk_33_method_47_49 51 (16 : Int32) rfl ?_
  refine Own.W.icmpT ok d_jdk_33_method_47_51 61 (by decide : (10 : Int32) < (16 : Int32)) ?_
  refine Own.W.iloadN ok d_jdk_33_method_47_61 62 rfl ?_
  refine Own.W.iconst ok d_jdk_33_method_47_62 63 (4 : Int32) rfl ?_
  refine Own.W.icmpF ok d_jdk_33_method_47_63 66 (by decide : ¬ ((10 : Int32) < (4 : Int32))) ?_
  refine Own.W.iinc ok d_jdk_33_method_47_66 69 (29 : Int32) #[.val (.int (10 : Int32)), .val (.int (29 : Int32))] rfl (by decide) rfl ?_
  refine Own.W.iloadN ok d_jdk_33_method_47_69 70 rfl ?_
  refine Own.W.iconst ok d_jdk_33_method_47_70 71 (2 : Int32) rfl ?_
  refine Own.W.iushrV ok d_jdk_33_method_47_71 72 (2 : Int32) (by decide) ?_
  refine Own.W.istoreN ok d_jdk_33_method_47_72 73 #[.val (.int (2 : Int32)), .val (.int (29 : Int32))] rfl ?_
  refine Own.W.iloadN ok d_jdk_33_method_47_73 74 rfl ?_
  refine Own.W.iloadN ok d_jdk_33_method_47_74 75 rfl ?_
  refine Own.W.iconst ok d_jdk_33_method_47_75 76 (1 : Int32) rfl ?_
  refine Own.W.iushrV ok d_jdk_33_method_47_76 77 (1 : Int32) (by decide) ?_
  refine Own.W.isubV ok d_jdk_33_method_47_77 78 (28 : Int32) (by decide) ?_
  exact Own.W.iret ok d_jdk_33_method_47_78 rfl ⟨rfl, rfl⟩
set_option maxRecDepth 65536 in
set_option maxHeartbeats 4000000 in
theorem c_hob10 (l : Launch) {Z : State} {a0 : Array Value} (tb : Own.Tb Z a0 tables_1)  (h : Heap) :
    Own.Con l Z (⟨"java/lang/Integer", "highestOneBit", "(I)I"⟩ : MethodName) jdk_33_method_45_code 1 (some .int) ({ frames := 1, cells := 0, slots := 0, locals := 20 } : Room) #[(.int (10 : Int32))] h (fun rr h' => rr = some (.int (8 : Int32)) ∧ h = h') := by
  refine Own.Con.of (plainFor_of_name (by first | (simp [plainName, overriddenIn]; done) | decide +kernel)) #[.val (.int (10 : Int32))] (fun m => by first | rfl | (simp [entryFrame, mkF, argsToLocals, Value.category, maxLocals]; done)) (fun K ok => ?_)
  refine Own.W.iloadN ok d_jdk_33_method_45_0 1 rfl ?_
  refine Own.W.ldc ok tb 54 rfl d_jdk_33_method_45_1 3 ?_
  refine Own.W.iloadN ok d_jdk_33_method_45_3 4 rfl ?_
  refine Own.W.callS ok tb (argsL := [(.int (10 : Int32))]) (rest := [(.int (-2147483648 : Int32)), (.int (10 : Int32))]) 55 56 52 57 rfl rfl rfl rfl d_jdk_33_method_45_4 pd_10 (c_nlz10 l tb  h) 2 0 0 7 ?_
  rintro _ _ ⟨rfl, rfl⟩
  show Own.W l Z _ K _ h 0 0 7 #[.val (.int (10 : Int32))] [(.int (28 : Int32)), (.int (-2147483648 : Int32)), (.int (10 : Int32))]
  refine Own.W.iushrV ok d_jdk_33_method_45_7 8 (8 : Int32) (by decide) ?_
  refine Own.W.iandV ok d_jdk_33_method_45_8 9 (8 : Int32) (by decide) ?_
  exact Own.W.iret ok d_jdk_33_method_45_9 rfl ⟨rfl, rfl⟩
set_option maxRecDepth 65536 in
set_option maxHeartbeats 4000000 in
theorem c_nlz12 (l : Launch) {Z : State} {a0 : Array Value} (tb : Own.Tb Z a0 tables_1)  (h : Heap) :
    Own.Con l Z (⟨"java/lang/Integer", "numberOfLeadingZeros", "(I)I"⟩ : MethodName) jdk_33_method_47_code 2 (some .int) ({ frames := 0, cells := 0, slots := 0, locals := 0 } : Room) #[(.int (12 : Int32))] h (fun rr h' => rr = some (.int (28 : Int32)) ∧ h = h') := by
  refine Own.Con.of (plainFor_of_name (by first | (simp [plainName, overriddenIn]; done) | decide +kernel)) #[.val (.int (12 : Int32)), .unset] (fun m => by first | rfl | (simp [entryFrame, mkF, argsToLocals, Value.category, maxLocals]; done)) (fun K ok => ?_)
  refine Own.W.iloadN ok d_jdk_33_method_47_0 1 rfl ?_
  refine Own.W.ifT ok d_jdk_33_method_47_1 15 (by decide : (0 : Int32) < (12 : Int32)) ?_
  refine Own.W.bipush ok d_jdk_33_method_47_15 17 (31 : Int32) rfl ?_
  refine Own.W.istoreN ok d_jdk_33_method_47_17 18 #[.val (.int (12 : Int32)), .val (.int (31 : Int32))] rfl ?_
  refine Own.W.iloadN ok d_jdk_33_method_47_18 19 rfl ?_
  refine Own.W.ldcw ok tb 58 rfl d_jdk_33_method_47_19 22 ?_
  refine Own.W.icmpT ok d_jdk_33_method_47_22 33 (by decide : (12 : Int32) < (65536 : Int32)) ?_
  refine Own.W.iloadN ok d_jdk_33_method_47_33 34 rfl ?_
  refine Own.W.sipush ok d_jdk_33_method_47_34 37 (256 : Int32) rfl ?_
  refine Own.W.icmpT ok d_jdk_33_method_47_37 48 (by decide : (12 : Int32) < (256 : Int32)) ?_
  refine Own.W.iloadN ok d_jdk_33_method_47_48 49 rfl ?_
  refine Own.W.bipush ok d_jdk_33_method_47_49 51 (16 : Int32) rfl ?_
  refine Own.W.icmpT ok d_jdk_33_method_47_51 61 (by decide : (12 : Int32) < (16 : Int32)) ?_
  refine Own.W.iloadN ok d_jdk_33_method_47_61 62 rfl ?_
  refine Own.W.iconst ok d_jdk_33_method_47_62 63 (4 : Int32) rfl ?_
  refine Own.W.icmpF ok d_jdk_33_method_47_63 66 (by decide : ¬ ((12 : Int32) < (4 : Int32))) ?_
  refine Own.W.iinc ok d_jdk_33_method_47_66 69 (29 : Int32) #[.val (.int (12 : Int32)), .val (.int (29 : Int32))] rfl (by decide) rfl ?_
  refine Own.W.iloadN ok d_jdk_33_method_47_69 70 rfl ?_
  refine Own.W.iconst ok d_jdk_33_method_47_70 71 (2 : Int32) rfl ?_
  refine Own.W.iushrV ok d_jdk_33_method_47_71 72 (3 : Int32) (by decide) ?_
  refine Own.W.istoreN ok d_jdk_33_method_47_72 73 #[.val (.int (3 : Int32)), .val (.int (29 : Int32))] rfl ?_
  refine Own.W.iloadN ok d_jdk_33_method_47_73 74 rfl ?_
  refine Own.W.iloadN ok d_jdk_33_method_47_74 75 rfl ?_
  refine Own.W.iconst ok d_jdk_33_method_47_75 76 (1 : Int32) rfl ?_
  refine Own.W.iushrV ok d_jdk_33_method_47_76 77 (1 : Int32) (by decide) ?_
  refine Own.W.isubV ok d_jdk_33_method_47_77 78 (28 : Int32) (by decide) ?_
  exact Own.W.iret ok d_jdk_33_method_47_78 rfl ⟨rfl, rfl⟩
set_option maxRecDepth 65536 in
set_option maxHeartbeats 4000000 in
theorem c_hob12 (l : Launch) {Z : State} {a0 : Array Value} (tb : Own.Tb Z a0 tables_1)  (h : Heap) :
    Own.Con l Z (⟨"java/lang/Integer", "highestOneBit", "(I)I"⟩ : MethodName) jdk_33_method_45_code 1 (some .int) ({ frames := 1, cells := 0, slots := 0, locals := 20 } : Room) #[(.int (12 : Int32))] h (fun rr h' => rr = some (.int (8 : Int32)) ∧ h = h') := by
  refine Own.Con.of (plainFor_of_name (by first | (simp [plainName, overriddenIn]; done) | decide +kernel)) #[.val (.int (12 : Int32))] (fun m => by first | rfl | (simp [entryFrame, mkF, argsToLocals, Value.category, maxLocals]; done)) (fun K ok => ?_)
  refine Own.W.iloadN ok d_jdk_33_method_45_0 1 rfl ?_
  refine Own.W.ldc ok tb 54 rfl d_jdk_33_method_45_1 3 ?_
  refine Own.W.iloadN ok d_jdk_33_method_45_3 4 rfl ?_
  refine Own.W.callS ok tb (argsL := [(.int (12 : Int32))]) (rest := [(.int (-2147483648 : Int32)), (.int (12 : Int32))]) 55 56 52 57 rfl rfl rfl rfl d_jdk_33_method_45_4 pd_10 (c_nlz12 l tb  h) 2 0 0 7 ?_
  rintro _ _ ⟨rfl, rfl⟩
  show Own.W l Z _ K _ h 0 0 7 #[.val (.int (12 : Int32))] [(.int (28 : Int32)), (.int (-2147483648 : Int32)), (.int (12 : Int32))]
  refine Own.W.iushrV ok d_jdk_33_method_45_7 8 (8 : Int32) (by decide) ?_
  refine Own.W.iandV ok d_jdk_33_method_45_8 9 (8 : Int32) (by decide) ?_
  exact Own.W.iret ok d_jdk_33_method_45_9 rfl ⟨rfl, rfl⟩
set_option maxRecDepth 65536 in
set_option maxHeartbeats 4000000 in
theorem c_nlz14 (l : Launch) {Z : State} {a0 : Array Value} (tb : Own.Tb Z a0 tables_1)  (h : Heap) :
    Own.Con l Z (⟨"java/lang/Integer", "numberOfLeadingZeros", "(I)I"⟩ : MethodName) jdk_33_method_47_code 2 (some .int) ({ frames := 0, cells := 0, slots := 0, locals := 0 } : Room) #[(.int (14 : Int32))] h (fun rr h' => rr = some (.int (28 : Int32)) ∧ h = h') := by
  refine Own.Con.of (plainFor_of_name (by first | (simp [plainName, overriddenIn]; done) | decide +kernel)) #[.val (.int (14 : Int32)), .unset] (fun m => by first | rfl | (simp [entryFrame, mkF, argsToLocals, Value.category, maxLocals]; done)) (fun K ok => ?_)
  refine Own.W.iloadN ok d_jdk_33_method_47_0 1 rfl ?_
  refine Own.W.ifT ok d_jdk_33_method_47_1 15 (by decide : (0 : Int32) < (14 : Int32)) ?_
  refine Own.W.bipush ok d_jdk_33_method_47_15 17 (31 : Int32) rfl ?_
  refine Own.W.istoreN ok d_jdk_33_method_47_17 18 #[.val (.int (14 : Int32)), .val (.int (31 : Int32))] rfl ?_
  refine Own.W.iloadN ok d_jdk_33_method_47_18 19 rfl ?_
  refine Own.W.ldcw ok tb 58 rfl d_jdk_33_method_47_19 22 ?_
  refine Own.W.icmpT ok d_jdk_33_method_47_22 33 (by decide : (14 : Int32) < (65536 : Int32)) ?_
  refine Own.W.iloadN ok d_jdk_33_method_47_33 34 rfl ?_
  refine Own.W.sipush ok d_jdk_33_method_47_34 37 (256 : Int32) rfl ?_
  refine Own.W.icmpT ok d_jdk_33_method_47_37 48 (by decide : (14 : Int32) < (256 : Int32)) ?_
  refine Own.W.iloadN ok d_jdk_33_method_47_48 49 rfl ?_
  refine Own.W.bipush ok d_jdk_33_method_47_49 51 (16 : Int32) rfl ?_
  refine Own.W.icmpT ok d_jdk_33_method_47_51 61 (by decide : (14 : Int32) < (16 : Int32)) ?_
  refine Own.W.iloadN ok d_jdk_33_method_47_61 62 rfl ?_
  refine Own.W.iconst ok d_jdk_33_method_47_62 63 (4 : Int32) rfl ?_
  refine Own.W.icmpF ok d_jdk_33_method_47_63 66 (by decide : ¬ ((14 : Int32) < (4 : Int32))) ?_
  refine Own.W.iinc ok d_jdk_33_method_47_66 69 (29 : Int32) #[.val (.int (14 : Int32)), .val (.int (29 : Int32))] rfl (by decide) rfl ?_
  refine Own.W.iloadN ok d_jdk_33_method_47_69 70 rfl ?_
  refine Own.W.iconst ok d_jdk_33_method_47_70 71 (2 : Int32) rfl ?_
  refine Own.W.iushrV ok d_jdk_33_method_47_71 72 (3 : Int32) (by decide) ?_
  refine Own.W.istoreN ok d_jdk_33_method_47_72 73 #[.val (.int (3 : Int32)), .val (.int (29 : Int32))] rfl ?_
  refine Own.W.iloadN ok d_jdk_33_method_47_73 74 rfl ?_
  refine Own.W.iloadN ok d_jdk_33_method_47_74 75 rfl ?_
  refine Own.W.iconst ok d_jdk_33_method_47_75 76 (1 : Int32) rfl ?_
  refine Own.W.iushrV ok d_jdk_33_method_47_76 77 (1 : Int32) (by decide) ?_
  refine Own.W.isubV ok d_jdk_33_method_47_77 78 (28 : Int32) (by decide) ?_
  exact Own.W.iret ok d_jdk_33_method_47_78 rfl ⟨rfl, rfl⟩
set_option maxRecDepth 65536 in
set_option maxHeartbeats 4000000 in
theorem c_hob14 (l : Launch) {Z : State} {a0 : Array Value} (tb : Own.Tb Z a0 tables_1)  (h : Heap) :
    Own.Con l Z (⟨"java/lang/Integer", "highestOneBit", "(I)I"⟩ : MethodName) jdk_33_method_45_code 1 (some .int) ({ frames := 1, cells := 0, slots := 0, locals := 20 } : Room) #[(.int (14 : Int32))] h (fun rr h' => rr = some (.int (8 : Int32)) ∧ h = h') := by
  refine Own.Con.of (plainFor_of_name (by first | (simp [plainName, overriddenIn]; done) | decide +kernel)) #[.val (.int (14 : Int32))] (fun m => by first | rfl | (simp [entryFrame, mkF, argsToLocals, Value.category, maxLocals]; done)) (fun K ok => ?_)
  refine Own.W.iloadN ok d_jdk_33_method_45_0 1 rfl ?_
  refine Own.W.ldc ok tb 54 rfl d_jdk_33_method_45_1 3 ?_
  refine Own.W.iloadN ok d_jdk_33_method_45_3 4 rfl ?_
  refine Own.W.callS ok tb (argsL := [(.int (14 : Int32))]) (rest := [(.int (-2147483648 : Int32)), (.int (14 : Int32))]) 55 56 52 57 rfl rfl rfl rfl d_jdk_33_method_45_4 pd_10 (c_nlz14 l tb  h) 2 0 0 7 ?_
  rintro _ _ ⟨rfl, rfl⟩
  show Own.W l Z _ K _ h 0 0 7 #[.val (.int (14 : Int32))] [(.int (28 : Int32)), (.int (-2147483648 : Int32)), (.int (14 : Int32))]
  refine Own.W.iushrV ok d_jdk_33_method_45_7 8 (8 : Int32) (by decide) ?_
  refine Own.W.iandV ok d_jdk_33_method_45_8 9 (8 : Int32) (by decide) ?_
  exact Own.W.iret ok d_jdk_33_method_45_9 rfl ⟨rfl, rfl⟩
set_option maxRecDepth 65536 in
set_option maxHeartbeats 4000000 in
theorem c_amap (l : Launch) {Z : State} {a0 : Array Value} (tb : Own.Tb Z a0 tables_1) (a : Addr) (h : Heap) :
    Own.Con l Z (⟨"java/util/AbstractMap", "<init>", "()V"⟩ : MethodName) jdk_71_method_1_code 1 none ({ frames := 1, cells := 0, slots := 0, locals := 12 } : Room) #[(.ref a)] h (fun rr h' => rr = none ∧ h = h') := by
  refine Own.Con.of (plainFor_of_name (by first | (simp [plainName, overriddenIn]; done) | decide +kernel)) #[.val (.ref a)] (fun m => by first | rfl | (simp [entryFrame, mkF, argsToLocals, Value.category, maxLocals]; done)) (fun K ok => ?_)
  refine Own.W.aloadN ok d_jdk_71_method_1_0 1 rfl rfl ?_
  refine Own.W.initO ok tb 45 16 17 rfl rfl rfl d_jdk_71_method_1_1 0 4 ?_
  exact Own.W.vret ok d_jdk_71_method_1_4 ⟨rfl, rfl⟩
set_option maxRecDepth 65536 in
set_option maxHeartbeats 4000000 in
theorem c_nini (l : Launch) {Z : State} {a0 : Array Value} (tb : Own.Tb Z a0 tables_1) (t : Addr) (p : Int32) (tl : List (Addr × Own.Pc)) (h : Heap) (cs : List (Addr × Own.Pc)) (H : Own.HS Z h ((t, o_NV .null .null .null (.int (0 : Int32))) :: cs)) (hp : p = 0 ∨ p = 1 ∨ p = 2 ∨ p = 3 ∨ p = 4 ∨ p = 5 ∨ p = 6 ∨ p = 7) :
    Own.Con l Z (⟨"com/example/vestwright/vestwright/NamedValues", "<init>", "(I)V"⟩ : MethodName) prog_12_method_1_code 3 none ({ frames := 3, cells := 3, slots := 40, locals := 48 } : Room) #[(.ref t), (.int p)] h (fun rr h' => ∃ (na2 : Addr) (va2 : Addr) (oa2 : Addr) (kn2 : ClassId) (kv2 : ClassId) (ko2 : ClassId) (n2 : Nat) (K2 : Nat → Int32) (H2 : Nat → Bool) (V2 : Nat → Value) (s2 : Nat → Addr) (o2 : Nat → Nat) (z2 : Nat), rr = none ∧ Own.HS Z h' ((t, o_NV (.ref na2) (.ref va2) (.ref oa2) (.int (z2.toInt32))) :: (na2, .inr ((.object "java/lang/String"), kn2, (Own.tN n2 H2 s2))) :: (va2, .inr ((.object "java/lang/Object"), kv2, (Own.tab n2 V2))) :: (oa2, .inr (.int, ko2, (Own.tO n2 o2))) :: cs) ∧ Own.TS Z tl n2 K2 H2 V2 s2 o2 [] z2 kn2 kv2) := by
  refine Own.Con.of (plainFor_of_name (by first | (simp [plainName, overriddenIn]; done) | decide +kernel)) #[.val (.ref t), .val (.int p), .unset] (fun m => by first | rfl | (simp [entryFrame, mkF, argsToLocals, Value.category, maxLocals]; done)) (fun K ok => ?_)
  rcases hp with rfl | rfl | rfl | rfl | rfl | rfl | rfl | rfl
  · refine Own.W.aloadN ok d_prog_12_method_1_0 1 rfl rfl ?_
    refine Own.W.callI ok tb (a := t) (argsL := []) (rest := []) 40 41 43 44 rfl rfl rfl rfl d_prog_12_method_1_1 pd_9 (c_amap l tb t h) 0 0 0 4 ?_
    rintro _ _ ⟨rfl, rfl⟩
    show Own.W l Z _ K _ h 0 0 4 #[.val (.ref t), .val (.int (0 : Int32)), .unset] []
    refine Own.W.iloadN ok d_prog_12_method_1_4 5 rfl ?_
    refine Own.W.iconst ok d_prog_12_method_1_5 6 (1 : Int32) rfl ?_
    refine Own.W.callS ok tb (argsL := [(.int (0 : Int32)), (.int (1 : Int32))]) (rest := []) 46 47 48 49 rfl rfl rfl rfl d_prog_12_method_1_6 pd_11 (c_max l tb (0 : Int32) (1 : Int32) (1 : Int32) h (by decide)) 0 0 0 9 ?_
    rintro _ _ ⟨rfl, rfl⟩
    show Own.W l Z _ K _ h 0 0 9 #[.val (.ref t), .val (.int (0 : Int32)), .unset] [(.int (1 : Int32))]
    refine Own.W.iconst ok d_prog_12_method_1_9 10 (2 : Int32) rfl ?_
    refine Own.W.imulV ok d_prog_12_method_1_10 11 (2 : Int32) (by decide) ?_
    refine Own.W.callS ok tb (argsL := [(.int (2 : Int32))]) (rest := []) 50 51 52 53 rfl rfl rfl rfl d_prog_12_method_1_11 pd_10 (c_hob2 l tb  h) 0 0 0 14 ?_
    rintro _ _ ⟨rfl, rfl⟩
    show Own.W l Z _ K _ h 0 0 14 #[.val (.ref t), .val (.int (0 : Int32)), .unset] [(.int (2 : Int32))]
    refine Own.W.iconst ok d_prog_12_method_1_14 15 (2 : Int32) rfl ?_
    refine Own.W.imulV ok d_prog_12_method_1_15 16 (4 : Int32) (by decide) ?_
    refine Own.W.istoreN ok d_prog_12_method_1_16 17 #[.val (.ref t), .val (.int (0 : Int32)), .val (.int (4 : Int32))] rfl ?_
    refine Own.W.aloadN ok d_prog_12_method_1_17 18 rfl rfl ?_
    refine Own.W.iloadN ok d_prog_12_method_1_18 19 rfl ?_
    refine Own.W.newR ok tb H 59 60 rfl rfl d_prog_12_method_1_19 4 (Own.tN 4 (fun _ => false) (fun _ => t)) rfl 1 4 22 (by decide) (by decide) (fun a1 k2 h3 O5 H4 => ?_)
    show Own.W l Z _ K _ h3 1 4 22 #[.val (.ref t), .val (.int (0 : Int32)), .val (.int (4 : Int32))] [(.ref a1), (.ref t)]
    refine Own.W.putF ok tb H4 (i := 1) (j := 0) (ty := (.array (.object "java/lang/String"))) (w' := (.ref a1)) rfl rfl 61 35 rfl rfl Via.refl (Or.inl (tb _ (List.mem_of_getElem? (i := 62) rfl))) (Own.Lay.of (nw_NV tb) rfl) (by decide) rfl rfl d_prog_12_method_1_22 25 ((a1, .inr ((.object "java/lang/String"), k2, (Own.tN 4 (fun _ => false) (fun _ => t)))) :: (t, o_NV (.ref a1) .null .null (.int (0 : Int32))) :: cs) rfl (fun h6 H7 => ?_)
    refine Own.W.aloadN ok d_prog_12_method_1_25 26 rfl rfl ?_
    refine Own.W.iloadN ok d_prog_12_method_1_26 27 rfl ?_
    refine Own.W.newR ok tb H7 63 64 rfl rfl d_prog_12_method_1_27 4 (Own.tab 4 (fun _ => .null)) rfl 2 8 30 (by decide) (by decide) (fun a8 k9 h10 O12 H11 => ?_)
    show Own.W l Z _ K _ h10 2 8 30 #[.val (.ref t), .val (.int (0 : Int32)), .val (.int (4 : Int32))] [(.ref a8), (.ref t)]
    refine Own.W.putF ok tb H11 (i := 2) (j := 1) (ty := (.array (.object "java/lang/Object"))) (w' := (.ref a8)) rfl rfl 65 35 rfl rfl Via.refl (Or.inl (tb _ (List.mem_of_getElem? (i := 66) rfl))) (Own.Lay.of (nw_NV tb) rfl) (by decide) rfl rfl d_prog_12_method_1_30 33 ((a8, .inr ((.object "java/lang/Object"), k9, (Own.tab 4 (fun _ => .null)))) :: (a1, .inr ((.object "java/lang/String"), k2, (Own.tN 4 (fun _ => false) (fun _ => t)))) :: (t, o_NV (.ref a1) (.ref a8) .null (.int (0 : Int32))) :: cs) rfl (fun h13 H14 => ?_)
    refine Own.W.aloadN ok d_prog_12_method_1_33 34 rfl rfl ?_
    refine Own.W.iloadN ok d_prog_12_method_1_34 35 rfl ?_
    refine Own.W.iconst ok d_prog_12_method_1_35 36 (2 : Int32) rfl ?_
    refine Own.W.idiv ok d_prog_12_method_1_36 37 (by decide) ?_
    refine Own.W.newP ok tb H14 67 rfl d_prog_12_method_1_37 2 (Own.tO 4 (fun _ => 0)) rfl 3 10 39 (by decide) (by decide) (fun a15 k16 h17 H18 => ?_)
    show Own.W l Z _ K _ h17 3 10 39 #[.val (.ref t), .val (.int (0 : Int32)), .val (.int (4 : Int32))] [(.ref a15), (.ref t)]
    refine Own.W.putF ok tb H18 (i := 3) (j := 2) (ty := (.array .int)) (w' := (.ref a15)) rfl rfl 68 35 rfl rfl Via.refl (Or.inl (tb _ (List.mem_of_getElem? (i := 69) rfl))) (Own.Lay.of (nw_NV tb) rfl) (by decide) rfl rfl d_prog_12_method_1_39 42 ((a15, .inr (.int, k16, (Own.tO 4 (fun _ => 0)))) :: (a8, .inr ((.object "java/lang/Object"), k9, (Own.tab 4 (fun _ => .null)))) :: (a1, .inr ((.object "java/lang/String"), k2, (Own.tN 4 (fun _ => false) (fun _ => t)))) :: (t, o_NV (.ref a1) (.ref a8) (.ref a15) (.int (0 : Int32))) :: cs) rfl (fun h19 H20 => ?_)
    exact Own.W.vret ok d_prog_12_method_1_42 ⟨a1, a8, a15, k2, k9, k16, 4, fun _ => 0, fun _ => false, fun _ => .null, fun _ => t, fun _ => 0, 0, rfl, (((H20.pull 1 ((a8, .inr ((.object "java/lang/Object"), k9, (Own.tab 4 (fun _ => .null)))) :: (a15, .inr (.int, k16, (Own.tO 4 (fun _ => 0)))) :: (a1, .inr ((.object "java/lang/String"), k2, (Own.tN 4 (fun _ => false) (fun _ => t)))) :: (t, o_NV (.ref a1) (.ref a8) (.ref a15) (.int ((0 : Nat).toInt32))) :: cs) rfl rfl).pull 2 ((a1, .inr ((.object "java/lang/String"), k2, (Own.tN 4 (fun _ => false) (fun _ => t)))) :: (a8, .inr ((.object "java/lang/Object"), k9, (Own.tab 4 (fun _ => .null)))) :: (a15, .inr (.int, k16, (Own.tO 4 (fun _ => 0)))) :: (t, o_NV (.ref a1) (.ref a8) (.ref a15) (.int ((0 : Nat).toInt32))) :: cs) rfl rfl).pull 3 ((t, o_NV (.ref a1) (.ref a8) (.ref a15) (.int ((0 : Nat).toInt32))) :: (a1, .inr ((.object "java/lang/String"), k2, (Own.tN 4 (fun _ => false) (fun _ => t)))) :: (a8, .inr ((.object "java/lang/Object"), k9, (Own.tab 4 (fun _ => .null)))) :: (a15, .inr (.int, k16, (Own.tO 4 (fun _ => 0)))) :: cs) rfl rfl), ⟨Own.NT.zero (by decide), rfl, by decide, fun _ => Or.inl rfl, fun _ q => (by cases q), O5, O12⟩⟩
  · refine Own.W.aloadN ok d_prog_12_method_1_0 1 rfl rfl ?_
    refine Own.W.callI ok tb (a := t) (argsL := []) (rest := []) 40 41 43 44 rfl rfl rfl rfl d_prog_12_method_1_1 pd_9 (c_amap l tb t h) 0 0 0 4 ?_
    rintro _ _ ⟨rfl, rfl⟩
    show Own.W l Z _ K _ h 0 0 4 #[.val (.ref t), .val (.int (1 : Int32)), .unset] []
    refine Own.W.iloadN ok d_prog_12_method_1_4 5 rfl ?_
    refine Own.W.iconst ok d_prog_12_method_1_5 6 (1 : Int32) rfl ?_
    refine Own.W.callS ok tb (argsL := [(.int (1 : Int32)), (.int (1 : Int32))]) (rest := []) 46 47 48 49 rfl rfl rfl rfl d_prog_12_method_1_6 pd_11 (c_max l tb (1 : Int32) (1 : Int32) (1 : Int32) h (by decide)) 0 0 0 9 ?_
    rintro _ _ ⟨rfl, rfl⟩
    show Own.W l Z _ K _ h 0 0 9 #[.val (.ref t), .val (.int (1 : Int32)), .unset] [(.int (1 : Int32))]
    refine Own.W.iconst ok d_prog_12_method_1_9 10 (2 : Int32) rfl ?_
    refine Own.W.imulV ok d_prog_12_method_1_10 11 (2 : Int32) (by decide) ?_
    refine Own.W.callS ok tb (argsL := [(.int (2 : Int32))]) (rest := []) 50 51 52 53 rfl rfl rfl rfl d_prog_12_method_1_11 pd_10 (c_hob2 l tb  h) 0 0 0 14 ?_
    rintro _ _ ⟨rfl, rfl⟩
    show Own.W l Z _ K _ h 0 0 14 #[.val (.ref t), .val (.int (1 : Int32)), .unset] [(.int (2 : Int32))]
    refine Own.W.iconst ok d_prog_12_method_1_14 15 (2 : Int32) rfl ?_
    refine Own.W.imulV ok d_prog_12_method_1_15 16 (4 : Int32) (by decide) ?_
    refine Own.W.istoreN ok d_prog_12_method_1_16 17 #[.val (.ref t), .val (.int (1 : Int32)), .val (.int (4 : Int32))] rfl ?_
    refine Own.W.aloadN ok d_prog_12_method_1_17 18 rfl rfl ?_
    refine Own.W.iloadN ok d_prog_12_method_1_18 19 rfl ?_
    refine Own.W.newR ok tb H 59 60 rfl rfl d_prog_12_method_1_19 4 (Own.tN 4 (fun _ => false) (fun _ => t)) rfl 1 4 22 (by decide) (by decide) (fun a21 k22 h23 O25 H24 => ?_)
    show Own.W l Z _ K _ h23 1 4 22 #[.val (.ref t), .val (.int (1 : Int32)), .val (.int (4 : Int32))] [(.ref a21), (.ref t)]
    refine Own.W.putF ok tb H24 (i := 1) (j := 0) (ty := (.array (.object "java/lang/String"))) (w' := (.ref a21)) rfl rfl 61 35 rfl rfl Via.refl (Or.inl (tb _ (List.mem_of_getElem? (i := 62) rfl))) (Own.Lay.of (nw_NV tb) rfl) (by decide) rfl rfl d_prog_12_method_1_22 25 ((a21, .inr ((.object "java/lang/String"), k22, (Own.tN 4 (fun _ => false) (fun _ => t)))) :: (t, o_NV (.ref a21) .null .null (.int (0 : Int32))) :: cs) rfl (fun h26 H27 => ?_)
    refine Own.W.aloadN ok d_prog_12_method_1_25 26 rfl rfl ?_
    refine Own.W.iloadN ok d_prog_12_method_1_26 27 rfl ?_
    refine Own.W.newR ok tb H27 63 64 rfl rfl d_prog_12_method_1_27 4 (Own.tab 4 (fun _ => .null)) rfl 2 8 30 (by decide) (by decide) (fun a28 k29 h30 O32 H31 => ?_)
    show Own.W l Z _ K _ h30 2 8 30 #[.val (.ref t), .val (.int (1 : Int32)), .val (.int (4 : Int32))] [(.ref a28), (.ref t)]
    refine Own.W.putF ok tb H31 (i := 2) (j := 1) (ty := (.array (.object "java/lang/Object"))) (w' := (.ref a28)) rfl rfl 65 35 rfl rfl Via.refl (Or.inl (tb _ (List.mem_of_getElem? (i := 66) rfl))) (Own.Lay.of (nw_NV tb) rfl) (by decide) rfl rfl d_prog_12_method_1_30 33 ((a28, .inr ((.object "java/lang/Object"), k29, (Own.tab 4 (fun _ => .null)))) :: (a21, .inr ((.object "java/lang/String"), k22, (Own.tN 4 (fun _ => false) (fun _ => t)))) :: (t, o_NV (.ref a21) (.ref a28) .null (.int (0 : Int32))) :: cs) rfl (fun h33 H34 => ?_)
    refine Own.W.aloadN ok d_prog_12_method_1_33 34 rfl rfl ?_
    refine Own.W.iloadN ok d_prog_12_method_1_34 35 rfl ?_
    refine Own.W.iconst ok d_prog_12_method_1_35 36 (2 : Int32) rfl ?_
    refine Own.W.idiv ok d_prog_12_method_1_36 37 (by decide) ?_
    refine Own.W.newP ok tb H34 67 rfl d_prog_12_method_1_37 2 (Own.tO 4 (fun _ => 0)) rfl 3 10 39 (by decide) (by decide) (fun a35 k36 h37 H38 => ?_)
    show Own.W l Z _ K _ h37 3 10 39 #[.val (.ref t), .val (.int (1 : Int32)), .val (.int (4 : Int32))] [(.ref a35), (.ref t)]
    refine Own.W.putF ok tb H38 (i := 3) (j := 2) (ty := (.array .int)) (w' := (.ref a35)) rfl rfl 68 35 rfl rfl Via.refl (Or.inl (tb _ (List.mem_of_getElem? (i := 69) rfl))) (Own.Lay.of (nw_NV tb) rfl) (by decide) rfl rfl d_prog_12_method_1_39 42 ((a35, .inr (.int, k36, (Own.tO 4 (fun _ => 0)))) :: (a28, .inr ((.object "java/lang/Object"), k29, (Own.tab 4 (fun _ => .null)))) :: (a21, .inr ((.object "java/lang/String"), k22, (Own.tN 4 (fun _ => false) (fun _ => t)))) :: (t, o_NV (.ref a21) (.ref a28) (.ref a35) (.int (0 : Int32))) :: cs) rfl (fun h39 H40 => ?_)
    exact Own.W.vret ok d_prog_12_method_1_42 ⟨a21, a28, a35, k22, k29, k36, 4, fun _ => 0, fun _ => false, fun _ => .null, fun _ => t, fun _ => 0, 0, rfl, (((H40.pull 1 ((a28, .inr ((.object "java/lang/Object"), k29, (Own.tab 4 (fun _ => .null)))) :: (a35, .inr (.int, k36, (Own.tO 4 (fun _ => 0)))) :: (a21, .inr ((.object "java/lang/String"), k22, (Own.tN 4 (fun _ => false) (fun _ => t)))) :: (t, o_NV (.ref a21) (.ref a28) (.ref a35) (.int ((0 : Nat).toInt32))) :: cs) rfl rfl).pull 2 ((a21, .inr ((.object "java/lang/String"), k22, (Own.tN 4 (fun _ => false) (fun _ => t)))) :: (a28, .inr ((.object "java/lang/Object"), k29, (Own.tab 4 (fun _ => .null)))) :: (a35, .inr (.int, k36, (Own.tO 4 (fun _ => 0)))) :: (t, o_NV (.ref a21) (.ref a28) (.ref a35) (.int ((0 : Nat).toInt32))) :: cs) rfl rfl).pull 3 ((t, o_NV (.ref a21) (.ref a28) (.ref a35) (.int ((0 : Nat).toInt32))) :: (a21, .inr ((.object "java/lang/String"), k22, (Own.tN 4 (fun _ => false) (fun _ => t)))) :: (a28, .inr ((.object "java/lang/Object"), k29, (Own.tab 4 (fun _ => .null)))) :: (a35, .inr (.int, k36, (Own.tO 4 (fun _ => 0)))) :: cs) rfl rfl), ⟨Own.NT.zero (by decide), rfl, by decide, fun _ => Or.inl rfl, fun _ q => (by cases q), O25, O32⟩⟩
  · refine Own.W.aloadN ok d_prog_12_method_1_0 1 rfl rfl ?_
    refine Own.W.callI ok tb (a := t) (argsL := []) (rest := []) 40 41 43 44 rfl rfl rfl rfl d_prog_12_method_1_1 pd_9 (c_amap l tb t h) 0 0 0 4 ?_
    rintro _ _ ⟨rfl, rfl⟩
    show Own.W l Z _ K _ h 0 0 4 #[.val (.ref t), .val (.int (2 : Int32)), .unset] []
    refine Own.W.iloadN ok d_prog_12_method_1_4 5 rfl ?_
    refine Own.W.iconst ok d_prog_12_method_1_5 6 (1 : Int32) rfl ?_
    refine Own.W.callS ok tb (argsL := [(.int (2 : Int32)), (.int (1 : Int32))]) (rest := []) 46 47 48 49 rfl rfl rfl rfl d_prog_12_method_1_6 pd_11 (c_max l tb (2 : Int32) (1 : Int32) (2 : Int32) h (by decide)) 0 0 0 9 ?_
    rintro _ _ ⟨rfl, rfl⟩
    show Own.W l Z _ K _ h 0 0 9 #[.val (.ref t), .val (.int (2 : Int32)), .unset] [(.int (2 : Int32))]
    refine Own.W.iconst ok d_prog_12_method_1_9 10 (2 : Int32) rfl ?_
    refine Own.W.imulV ok d_prog_12_method_1_10 11 (4 : Int32) (by decide) ?_
    refine Own.W.callS ok tb (argsL := [(.int (4 : Int32))]) (rest := []) 50 51 52 53 rfl rfl rfl rfl d_prog_12_method_1_11 pd_10 (c_hob4 l tb  h) 0 0 0 14 ?_
    rintro _ _ ⟨rfl, rfl⟩
    show Own.W l Z _ K _ h 0 0 14 #[.val (.ref t), .val (.int (2 : Int32)), .unset] [(.int (4 : Int32))]
    refine Own.W.iconst ok d_prog_12_method_1_14 15 (2 : Int32) rfl ?_
    refine Own.W.imulV ok d_prog_12_method_1_15 16 (8 : Int32) (by decide) ?_
    refine Own.W.istoreN ok d_prog_12_method_1_16 17 #[.val (.ref t), .val (.int (2 : Int32)), .val (.int (8 : Int32))] rfl ?_
    refine Own.W.aloadN ok d_prog_12_method_1_17 18 rfl rfl ?_
    refine Own.W.iloadN ok d_prog_12_method_1_18 19 rfl ?_
    refine Own.W.newR ok tb H 59 60 rfl rfl d_prog_12_method_1_19 8 (Own.tN 8 (fun _ => false) (fun _ => t)) rfl 1 8 22 (by decide) (by decide) (fun a41 k42 h43 O45 H44 => ?_)
    show Own.W l Z _ K _ h43 1 8 22 #[.val (.ref t), .val (.int (2 : Int32)), .val (.int (8 : Int32))] [(.ref a41), (.ref t)]
    refine Own.W.putF ok tb H44 (i := 1) (j := 0) (ty := (.array (.object "java/lang/String"))) (w' := (.ref a41)) rfl rfl 61 35 rfl rfl Via.refl (Or.inl (tb _ (List.mem_of_getElem? (i := 62) rfl))) (Own.Lay.of (nw_NV tb) rfl) (by decide) rfl rfl d_prog_12_method_1_22 25 ((a41, .inr ((.object "java/lang/String"), k42, (Own.tN 8 (fun _ => false) (fun _ => t)))) :: (t, o_NV (.ref a41) .null .null (.int (0 : Int32))) :: cs) rfl (fun h46 H47 => ?_)
    refine Own.W.aloadN ok d_prog_12_method_1_25 26 rfl rfl ?_
    refine Own.W.iloadN ok d_prog_12_method_1_26 27 rfl ?_
    refine Own.W.newR ok tb H47 63 64 rfl rfl d_prog_12_method_1_27 8 (Own.tab 8 (fun _ => .null)) rfl 2 16 30 (by decide) (by decide) (fun a48 k49 h50 O52 H51 => ?_)
    show Own.W l Z _ K _ h50 2 16 30 #[.val (.ref t), .val (.int (2 : Int32)), .val (.int (8 : Int32))] [(.ref a48), (.ref t)]
    refine Own.W.putF ok tb H51 (i := 2) (j := 1) (ty := (.array (.object "java/lang/Object"))) (w' := (.ref a48)) rfl rfl 65 35 rfl rfl Via.refl (Or.inl (tb _ (List.mem_of_getElem? (i := 66) rfl))) (Own.Lay.of (nw_NV tb) rfl) (by decide) rfl rfl d_prog_12_method_1_30 33 ((a48, .inr ((.object "java/lang/Object"), k49, (Own.tab 8 (fun _ => .null)))) :: (a41, .inr ((.object "java/lang/String"), k42, (Own.tN 8 (fun _ => false) (fun _ => t)))) :: (t, o_NV (.ref a41) (.ref a48) .null (.int (0 : Int32))) :: cs) rfl (fun h53 H54 => ?_)
    refine Own.W.aloadN ok d_prog_12_method_1_33 34 rfl rfl ?_
    refine Own.W.iloadN ok d_prog_12_method_1_34 35 rfl ?_
    refine Own.W.iconst ok d_prog_12_method_1_35 36 (2 : Int32) rfl ?_
    refine Own.W.idiv ok d_prog_12_method_1_36 37 (by decide) ?_
    refine Own.W.newP ok tb H54 67 rfl d_prog_12_method_1_37 4 (Own.tO 8 (fun _ => 0)) rfl 3 20 39 (by decide) (by decide) (fun a55 k56 h57 H58 => ?_)
    show Own.W l Z _ K _ h57 3 20 39 #[.val (.ref t), .val (.int (2 : Int32)), .val (.int (8 : Int32))] [(.ref a55), (.ref t)]
    refine Own.W.putF ok tb H58 (i := 3) (j := 2) (ty := (.array .int)) (w' := (.ref a55)) rfl rfl 68 35 rfl rfl Via.refl (Or.inl (tb _ (List.mem_of_getElem? (i := 69) rfl))) (Own.Lay.of (nw_NV tb) rfl) (by decide) rfl rfl d_prog_12_method_1_39 42 ((a55, .inr (.int, k56, (Own.tO 8 (fun _ => 0)))) :: (a48, .inr ((.object "java/lang/Object"), k49, (Own.tab 8 (fun _ => .null)))) :: (a41, .inr ((.object "java/lang/String"), k42, (Own.tN 8 (fun _ => false) (fun _ => t)))) :: (t, o_NV (.ref a41) (.ref a48) (.ref a55) (.int (0 : Int32))) :: cs) rfl (fun h59 H60 => ?_)
    exact Own.W.vret ok d_prog_12_method_1_42 ⟨a41, a48, a55, k42, k49, k56, 8, fun _ => 0, fun _ => false, fun _ => .null, fun _ => t, fun _ => 0, 0, rfl, (((H60.pull 1 ((a48, .inr ((.object "java/lang/Object"), k49, (Own.tab 8 (fun _ => .null)))) :: (a55, .inr (.int, k56, (Own.tO 8 (fun _ => 0)))) :: (a41, .inr ((.object "java/lang/String"), k42, (Own.tN 8 (fun _ => false) (fun _ => t)))) :: (t, o_NV (.ref a41) (.ref a48) (.ref a55) (.int ((0 : Nat).toInt32))) :: cs) rfl rfl).pull 2 ((a41, .inr ((.object "java/lang/String"), k42, (Own.tN 8 (fun _ => false) (fun _ => t)))) :: (a48, .inr ((.object "java/lang/Object"), k49, (Own.tab 8 (fun _ => .null)))) :: (a55, .inr (.int, k56, (Own.tO 8 (fun _ => 0)))) :: (t, o_NV (.ref a41) (.ref a48) (.ref a55) (.int ((0 : Nat).toInt32))) :: cs) rfl rfl).pull 3 ((t, o_NV (.ref a41) (.ref a48) (.ref a55) (.int ((0 : Nat).toInt32))) :: (a41, .inr ((.object "java/lang/String"), k42, (Own.tN 8 (fun _ => false) (fun _ => t)))) :: (a48, .inr ((.object "java/lang/Object"), k49, (Own.tab 8 (fun _ => .null)))) :: (a55, .inr (.int, k56, (Own.tO 8 (fun _ => 0)))) :: cs) rfl rfl), ⟨Own.NT.zero (by decide), rfl, by decide, fun _ => Or.inl rfl, fun _ q => (by cases q), O45, O52⟩⟩
  · refine Own.W.aloadN ok d_prog_12_method_1_0 1 rfl rfl ?_
    refine Own.W.callI ok tb (a := t) (argsL := []) (rest := []) 40 41 43 44 rfl rfl rfl rfl d_prog_12_method_1_1 pd_9 (c_amap l tb t h) 0 0 0 4 ?_
    rintro _ _ ⟨rfl, rfl⟩
    show Own.W l Z _ K _ h 0 0 4 #[.val (.ref t), .val (.int (3 : Int32)), .unset] []
    refine Own.W.iloadN ok d_prog_12_method_1_4 5 rfl ?_
    refine Own.W.iconst ok d_prog_12_method_1_5 6 (1 : Int32) rfl ?_
    refine Own.W.callS ok tb (argsL := [(.int (3 : Int32)), (.int (1 : Int32))]) (rest := []) 46 47 48 49 rfl rfl rfl rfl d_prog_12_method_1_6 pd_11 (c_max l tb (3 : Int32) (1 : Int32) (3 : Int32) h (by decide)) 0 0 0 9 ?_
    rintro _ _ ⟨rfl, rfl⟩
    show Own.W l Z _ K _ h 0 0 9 #[.val (.ref t), .val (.int (3 : Int32)), .unset] [(.int (3 : Int32))]
    refine Own.W.iconst ok d_prog_12_method_1_9 10 (2 : Int32) rfl ?_
    refine Own.W.imulV ok d_prog_12_method_1_10 11 (6 : Int32) (by decide) ?_
    refine Own.W.callS ok tb (argsL := [(.int (6 : Int32))]) (rest := []) 50 51 52 53 rfl rfl rfl rfl d_prog_12_method_1_11 pd_10 (c_hob6 l tb  h) 0 0 0 14 ?_
    rintro _ _ ⟨rfl, rfl⟩
    show Own.W l Z _ K _ h 0 0 14 #[.val (.ref t), .val (.int (3 : Int32)), .unset] [(.int (4 : Int32))]
    refine Own.W.iconst ok d_prog_12_method_1_14 15 (2 : Int32) rfl ?_
    refine Own.W.imulV ok d_prog_12_method_1_15 16 (8 : Int32) (by decide) ?_
    refine Own.W.istoreN ok d_prog_12_method_1_16 17 #[.val (.ref t), .val (.int (3 : Int32)), .val (.int (8 : Int32))] rfl ?_
    refine Own.W.aloadN ok d_prog_12_method_1_17 18 rfl rfl ?_
    refine Own.W.iloadN ok d_prog_12_method_1_18 19 rfl ?_
    refine Own.W.newR ok tb H 59 60 rfl rfl d_prog_12_method_1_19 8 (Own.tN 8 (fun _ => false) (fun _ => t)) rfl 1 8 22 (by decide) (by decide) (fun a61 k62 h63 O65 H64 => ?_)
    show Own.W l Z _ K _ h63 1 8 22 #[.val (.ref t), .val (.int (3 : Int32)), .val (.int (8 : Int32))] [(.ref a61), (.ref t)]
    refine Own.W.putF ok tb H64 (i := 1) (j := 0) (ty := (.array (.object "java/lang/String"))) (w' := (.ref a61)) rfl rfl 61 35 rfl rfl Via.refl (Or.inl (tb _ (List.mem_of_getElem? (i := 62) rfl))) (Own.Lay.of (nw_NV tb) rfl) (by decide) rfl rfl d_prog_12_method_1_22 25 ((a61, .inr ((.object "java/lang/String"), k62, (Own.tN 8 (fun _ => false) (fun _ => t)))) :: (t, o_NV (.ref a61) .null .null (.int (0 : Int32))) :: cs) rfl (fun h66 H67 => ?_)
    refine Own.W.aloadN ok d_prog_12_method_1_25 26 rfl rfl ?_
    refine Own.W.iloadN ok d_prog_12_method_1_26 27 rfl ?_
    refine Own.W.newR ok tb H67 63 64 rfl rfl d_prog_12_method_1_27 8 (Own.tab 8 (fun _ => .null)) rfl 2 16 30 (by decide) (by decide) (fun a68 k69 h70 O72 H71 => ?_)
    show Own.W l Z _ K _ h70 2 16 30 #[.val (.ref t), .val (.int (3 : Int32)), .val (.int (8 : Int32))] [(.ref a68), (.ref t)]
    refine Own.W.putF ok tb H71 (i := 2) (j := 1) (ty := (.array (.object "java/lang/Object"))) (w' := (.ref a68)) rfl rfl 65 35 rfl rfl Via.refl (Or.inl (tb _ (List.mem_of_getElem? (i := 66) rfl))) (Own.Lay.of (nw_NV tb) rfl) (by decide) rfl rfl d_prog_12_method_1_30 33 ((a68, .inr ((.object "java/lang/Object"), k69, (Own.tab 8 (fun _ => .null)))) :: (a61, .inr ((.object "java/lang/String"), k62, (Own.tN 8 (fun _ => false) (fun _ => t)))) :: (t, o_NV (.ref a61) (.ref a68) .null (.int (0 : Int32))) :: cs) rfl (fun h73 H74 => ?_)
    refine Own.W.aloadN ok d_prog_12_method_1_33 34 rfl rfl ?_
    refine Own.W.iloadN ok d_prog_12_method_1_34 35 rfl ?_
    refine Own.W.iconst ok d_prog_12_method_1_35 36 (2 : Int32) rfl ?_
    refine Own.W.idiv ok d_prog_12_method_1_36 37 (by decide) ?_
    refine Own.W.newP ok tb H74 67 rfl d_prog_12_method_1_37 4 (Own.tO 8 (fun _ => 0)) rfl 3 20 39 (by decide) (by decide) (fun a75 k76 h77 H78 => ?_)
    show Own.W l Z _ K _ h77 3 20 39 #[.val (.ref t), .val (.int (3 : Int32)), .val (.int (8 : Int32))] [(.ref a75), (.ref t)]
    refine Own.W.putF ok tb H78 (i := 3) (j := 2) (ty := (.array .int)) (w' := (.ref a75)) rfl rfl 68 35 rfl rfl Via.refl (Or.inl (tb _ (List.mem_of_getElem? (i := 69) rfl))) (Own.Lay.of (nw_NV tb) rfl) (by decide) rfl rfl d_prog_12_method_1_39 42 ((a75, .inr (.int, k76, (Own.tO 8 (fun _ => 0)))) :: (a68, .inr ((.object "java/lang/Object"), k69, (Own.tab 8 (fun _ => .null)))) :: (a61, .inr ((.object "java/lang/String"), k62, (Own.tN 8 (fun _ => false) (fun _ => t)))) :: (t, o_NV (.ref a61) (.ref a68) (.ref a75) (.int (0 : Int32))) :: cs) rfl (fun h79 H80 => ?_)
    exact Own.W.vret ok d_prog_12_method_1_42 ⟨a61, a68, a75, k62, k69, k76, 8, fun _ => 0, fun _ => false, fun _ => .null, fun _ => t, fun _ => 0, 0, rfl, (((H80.pull 1 ((a68, .inr ((.object "java/lang/Object"), k69, (Own.tab 8 (fun _ => .null)))) :: (a75, .inr (.int, k76, (Own.tO 8 (fun _ => 0)))) :: (a61, .inr ((.object "java/lang/String"), k62, (Own.tN 8 (fun _ => false) (fun _ => t)))) :: (t, o_NV (.ref a61) (.ref a68) (.ref a75) (.int ((0 : Nat).toInt32))) :: cs) rfl rfl).pull 2 ((a61, .inr ((.object "java/lang/String"), k62, (Own.tN 8 (fun _ => false) (fun _ => t)))) :: (a68, .inr ((.object "java/lang/Object"), k69, (Own.tab 8 (fun _ => .null)))) :: (a75, .inr (.int, k76, (Own.tO 8 (fun _ => 0)))) :: (t, o_NV (.ref a61) (.ref a68) (.ref a75) (.int ((0 : Nat).toInt32))) :: cs) rfl rfl).pull 3 ((t, o_NV (.ref a61) (.ref a68) (.ref a75) (.int ((0 : Nat).toInt32))) :: (a61, .inr ((.object "java/lang/String"), k62, (Own.tN 8 (fun _ => false) (fun _ => t)))) :: (a68, .inr ((.object "java/lang/Object"), k69, (Own.tab 8 (fun _ => .null)))) :: (a75, .inr (.int, k76, (Own.tO 8 (fun _ => 0)))) :: cs) rfl rfl), ⟨Own.NT.zero (by decide), rfl, by decide, fun _ => Or.inl rfl, fun _ q => (by cases q), O65, O72⟩⟩
  · refine Own.W.aloadN ok d_prog_12_method_1_0 1 rfl rfl ?_
    refine Own.W.callI ok tb (a := t) (argsL := []) (rest := []) 40 41 43 44 rfl rfl rfl rfl d_prog_12_method_1_1 pd_9 (c_amap l tb t h) 0 0 0 4 ?_
    rintro _ _ ⟨rfl, rfl⟩
    show Own.W l Z _ K _ h 0 0 4 #[.val (.ref t), .val (.int (4 : Int32)), .unset] []
    refine Own.W.iloadN ok d_prog_12_method_1_4 5 rfl ?_
    refine Own.W.iconst ok d_prog_12_method_1_5 6 (1 : Int32) rfl ?_
    refine Own.W.callS ok tb (argsL := [(.int (4 : Int32)), (.int (1 : Int32))]) (rest := []) 46 47 48 49 rfl rfl rfl rfl d_prog_12_method_1_6 pd_11 (c_max l tb (4 : Int32) (1 : Int32) (4 : Int32) h (by decide)) 0 0 0 9 ?_
    rintro _ _ ⟨rfl, rfl⟩
    show Own.W l Z _ K _ h 0 0 9 #[.val (.ref t), .val (.int (4 : Int32)), .unset] [(.int (4 : Int32))]
    refine Own.W.iconst ok d_prog_12_method_1_9 10 (2 : Int32) rfl ?_
    refine Own.W.imulV ok d_prog_12_method_1_10 11 (8 : Int32) (by decide) ?_
    refine Own.W.callS ok tb (argsL := [(.int (8 : Int32))]) (rest := []) 50 51 52 53 rfl rfl rfl rfl d_prog_12_method_1_11 pd_10 (c_hob8 l tb  h) 0 0 0 14 ?_
    rintro _ _ ⟨rfl, rfl⟩
    show Own.W l Z _ K _ h 0 0 14 #[.val (.ref t), .val (.int (4 : Int32)), .unset] [(.int (8 : Int32))]
    refine Own.W.iconst ok d_prog_12_method_1_14 15 (2 : Int32) rfl ?_
    refine Own.W.imulV ok d_prog_12_method_1_15 16 (16 : Int32) (by decide) ?_
    refine Own.W.istoreN ok d_prog_12_method_1_16 17 #[.val (.ref t), .val (.int (4 : Int32)), .val (.int (16 : Int32))] rfl ?_
    refine Own.W.aloadN ok d_prog_12_method_1_17 18 rfl rfl ?_
    refine Own.W.iloadN ok d_prog_12_method_1_18 19 rfl ?_
    refine Own.W.newR ok tb H 59 60 rfl rfl d_prog_12_method_1_19 16 (Own.tN 16 (fun _ => false) (fun _ => t)) rfl 1 16 22 (by decide) (by decide) (fun a81 k82 h83 O85 H84 => ?_)
    show Own.W l Z _ K _ h83 1 16 22 #[.val (.ref t), .val (.int (4 : Int32)), .val (.int (16 : Int32))] [(.ref a81), (.ref t)]
    refine Own.W.putF ok tb H84 (i := 1) (j := 0) (ty := (.array (.object "java/lang/String"))) (w' := (.ref a81)) rfl rfl 61 35 rfl rfl Via.refl (Or.inl (tb _ (List.mem_of_getElem? (i := 62) rfl))) (Own.Lay.of (nw_NV tb) rfl) (by decide) rfl rfl d_prog_12_method_1_22 25 ((a81, .inr ((.object "java/lang/String"), k82, (Own.tN 16 (fun _ => false) (fun _ => t)))) :: (t, o_NV (.ref a81) .null .null (.int (0 : Int32))) :: cs) rfl (fun h86 H87 => ?_)
    refine Own.W.aloadN ok d_prog_12_method_1_25 26 rfl rfl ?_
    refine Own.W.iloadN ok d_prog_12_method_1_26 27 rfl ?_
    refine Own.W.newR ok tb H87 63 64 rfl rfl d_prog_12_method_1_27 16 (Own.tab 16 (fun _ => .null)) rfl 2 32 30 (by decide) (by decide) (fun a88 k89 h90 O92 H91 => ?_)
    show Own.W l Z _ K _ h90 2 32 30 #[.val (.ref t), .val (.int (4 : Int32)), .val (.int (16 : Int32))] [(.ref a88), (.ref t)]
    refine Own.W.putF ok tb H91 (i := 2) (j := 1) (ty := (.array (.object "java/lang/Object"))) (w' := (.ref a88)) rfl rfl 65 35 rfl rfl Via.refl (Or.inl (tb _ (List.mem_of_getElem? (i := 66) rfl))) (Own.Lay.of (nw_NV tb) rfl) (by decide) rfl rfl d_prog_12_method_1_30 33 ((a88, .inr ((.object "java/lang/Object"), k89, (Own.tab 16 (fun _ => .null)))) :: (a81, .inr ((.object "java/lang/String"), k82, (Own.tN 16 (fun _ => false) (fun _ => t)))) :: (t, o_NV (.ref a81) (.ref a88) .null (.int (0 : Int32))) :: cs) rfl (fun h93 H94 => ?_)
    refine Own.W.aloadN ok d_prog_12_method_1_33 34 rfl rfl ?_
    refine Own.W.iloadN ok d_prog_12_method_1_34 35 rfl ?_
    refine Own.W.iconst ok d_prog_12_method_1_35 36 (2 : Int32) rfl ?_
    refine Own.W.idiv ok d_prog_12_method_1_36 37 (by decide) ?_
    refine Own.W.newP ok tb H94 67 rfl d_prog_12_method_1_37 8 (Own.tO 16 (fun _ => 0)) rfl 3 40 39 (by decide) (by decide) (fun a95 k96 h97 H98 => ?_)
    show Own.W l Z _ K _ h97 3 40 39 #[.val (.ref t), .val (.int (4 : Int32)), .val (.int (16 : Int32))] [(.ref a95), (.ref t)]
    refine Own.W.putF ok tb H98 (i := 3) (j := 2) (ty := (.array .int)) (w' := (.ref a95)) rfl rfl 68 35 rfl rfl Via.refl (Or.inl (tb _ (List.mem_of_getElem? (i := 69) rfl))) (Own.Lay.of (nw_NV tb) rfl) (by decide) rfl rfl d_prog_12_method_1_39 42 ((a95, .inr (.int, k96, (Own.tO 16 (fun _ => 0)))) :: (a88, .inr ((.object "java/lang/Object"), k89, (Own.tab 16 (fun _ => .null)))) :: (a81, .inr ((.object "java/lang/String"), k82, (Own.tN 16 (fun _ => false) (fun _ => t)))) :: (t, o_NV (.ref a81) (.ref a88) (.ref a95) (.int (0 : Int32))) :: cs) rfl (fun h99 H100 => ?_)
    exact Own.W.vret ok d_prog_12_method_1_42 ⟨a81, a88, a95, k82, k89, k96, 16, fun _ => 0, fun _ => false, fun _ => .null, fun _ => t, fun _ => 0, 0, rfl, (((H100.pull 1 ((a88, .inr ((.object "java/lang/Object"), k89, (Own.tab 16 (fun _ => .null)))) :: (a95, .inr (.int, k96, (Own.tO 16 (fun _ => 0)))) :: (a81, .inr ((.object "java/lang/String"), k82, (Own.tN 16 (fun _ => false) (fun _ => t)))) :: (t, o_NV (.ref a81) (.ref a88) (.ref a95) (.int ((0 : Nat).toInt32))) :: cs) rfl rfl).pull 2 ((a81, .inr ((.object "java/lang/String"), k82, (Own.tN 16 (fun _ => false) (fun _ => t)))) :: (a88, .inr ((.object "java/lang/Object"), k89, (Own.tab 16 (fun _ => .null)))) :: (a95, .inr (.int, k96, (Own.tO 16 (fun _ => 0)))) :: (t, o_NV (.ref a81) (.ref a88) (.ref a95) (.int ((0 : Nat).toInt32))) :: cs) rfl rfl).pull 3 ((t, o_NV (.ref a81) (.ref a88) (.ref a95) (.int ((0 : Nat).toInt32))) :: (a81, .inr ((.object "java/lang/String"), k82, (Own.tN 16 (fun _ => false) (fun _ => t)))) :: (a88, .inr ((.object "java/lang/Object"), k89, (Own.tab 16 (fun _ => .null)))) :: (a95, .inr (.int, k96, (Own.tO 16 (fun _ => 0)))) :: cs) rfl rfl), ⟨Own.NT.zero (by decide), rfl, by decide, fun _ => Or.inl rfl, fun _ q => (by cases q), O85, O92⟩⟩
  · refine Own.W.aloadN ok d_prog_12_method_1_0 1 rfl rfl ?_
    refine Own.W.callI ok tb (a := t) (argsL := []) (rest := []) 40 41 43 44 rfl rfl rfl rfl d_prog_12_method_1_1 pd_9 (c_amap l tb t h) 0 0 0 4 ?_
    rintro _ _ ⟨rfl, rfl⟩
    show Own.W l Z _ K _ h 0 0 4 #[.val (.ref t), .val (.int (5 : Int32)), .unset] []
    refine Own.W.iloadN ok d_prog_12_method_1_4 5 rfl ?_
    refine Own.W.iconst ok d_prog_12_method_1_5 6 (1 : Int32) rfl ?_
    refine Own.W.callS ok tb (argsL := [(.int (5 : Int32)), (.int (1 : Int32))]) (rest := []) 46 47 48 49 rfl rfl rfl rfl d_prog_12_method_1_6 pd_11 (c_max l tb (5 : Int32) (1 : Int32) (5 : Int32) h (by decide)) 0 0 0 9 ?_
    rintro _ _ ⟨rfl, rfl⟩
    show Own.W l Z _ K _ h 0 0 9 #[.val (.ref t), .val (.int (5 : Int32)), .unset] [(.int (5 : Int32))]
    refine Own.W.iconst ok d_prog_12_method_1_9 10 (2 : Int32) rfl ?_
    refine Own.W.imulV ok d_prog_12_method_1_10 11 (10 : Int32) (by decide) ?_
    refine Own.W.callS ok tb (argsL := [(.int (10 : Int32))]) (rest := []) 50 51 52 53 rfl rfl rfl rfl d_prog_12_method_1_11 pd_10 (c_hob10 l tb  h) 0 0 0 14 ?_
    rintro _ _ ⟨rfl, rfl⟩
    show Own.W l Z _ K _ h 0 0 14 #[.val (.ref t), .val (.int (5 : Int32)), .unset] [(.int (8 : Int32))]
    refine Own.W.iconst ok d_prog_12_method_1_14 15 (2 : Int32) rfl ?_
    refine Own.W.imulV ok d_prog_12_method_1_15 16 (16 : Int32) (by decide) ?_
    refine Own.W.istoreN ok d_prog_12_method_1_16 17 #[.val (.ref t), .val (.int (5 : Int32)), .val (.int (16 : Int32))] rfl ?_
    refine Own.W.aloadN ok d_prog_12_method_1_17 18 rfl rfl ?_
    refine Own.W.iloadN ok d_prog_12_method_1_18 19 rfl ?_
    refine Own.W.newR ok tb H 59 60 rfl rfl d_prog_12_method_1_19 16 (Own.tN 16 (fun _ => false) (fun _ => t)) rfl 1 16 22 (by decide) (by decide) (fun a101 k102 h103 O105 H104 => ?_)
    show Own.W l Z _ K _ h103 1 16 22 #[.val (.ref t), .val (.int (5 : Int32)), .val (.int (16 : Int32))] [(.ref a101), (.ref t)]
    refine Own.W.putF ok tb H104 (i := 1) (j := 0) (ty := (.array (.object "java/lang/String"))) (w' := (.ref a101)) rfl rfl 61 35 rfl rfl Via.refl (Or.inl (tb _ (List.mem_of_getElem? (i := 62) rfl))) (Own.Lay.of (nw_NV tb) rfl) (by decide) rfl rfl d_prog_12_method_1_22 25 ((a101, .inr ((.object "java/lang/String"), k102, (Own.tN 16 (fun _ => false) (fun _ => t)))) :: (t, o_NV (.ref a101) .null .null (.int (0 : Int32))) :: cs) rfl (fun h106 H107 => ?_)
    refine Own.W.aloadN ok d_prog_12_method_1_25 26 rfl rfl ?_
    refine Own.W.iloadN ok d_prog_12_method_1_26 27 rfl ?_
    refine Own.W.newR ok tb H107 63 64 rfl rfl d_prog_12_method_1_27 16 (Own.tab 16 (fun _ => .null)) rfl 2 32 30 (by decide) (by decide) (fun a108 k109 h110 O112 H111 => ?_)
    show Own.W l Z _ K _ h110 2 32 30 #[.val (.ref t), .val (.int (5 : Int32)), .val (.int (16 : Int32))] [(.ref a108), (.ref t)]
    refine Own.W.putF ok tb H111 (i := 2) (j := 1) (ty := (.array (.object "java/lang/Object"))) (w' := (.ref a108)) rfl rfl 65 35 rfl rfl Via.refl (Or.inl (tb _ (List.mem_of_getElem? (i := 66) rfl))) (Own.Lay.of (nw_NV tb) rfl) (by decide) rfl rfl d_prog_12_method_1_30 33 ((a108, .inr ((.object "java/lang/Object"), k109, (Own.tab 16 (fun _ => .null)))) :: (a101, .inr ((.object "java/lang/String"), k102, (Own.tN 16 (fun _ => false) (fun _ => t)))) :: (t, o_NV (.ref a101) (.ref a108) .null (.int (0 : Int32))) :: cs) rfl (fun h113 H114 => ?_)
    refine Own.W.aloadN ok d_prog_12_method_1_33 34 rfl rfl ?_
    refine Own.W.iloadN ok d_prog_12_method_1_34 35 rfl ?_
    refine Own.W.iconst ok d_prog_12_method_1_35 36 (2 : Int32) rfl ?_
    refine Own.W.idiv ok d_prog_12_method_1_36 37 (by decide) ?_
    refine Own.W.newP ok tb H114 67 rfl d_prog_12_method_1_37 8 (Own.tO 16 (fun _ => 0)) rfl 3 40 39 (by decide) (by decide) (fun a115 k116 h117 H118 => ?_)
    show Own.W l Z _ K _ h117 3 40 39 #[.val (.ref t), .val (.int (5 : Int32)), .val (.int (16 : Int32))] [(.ref a115), (.ref t)]
    refine Own.W.putF ok tb H118 (i := 3) (j := 2) (ty := (.array .int)) (w' := (.ref a115)) rfl rfl 68 35 rfl rfl Via.refl (Or.inl (tb _ (List.mem_of_getElem? (i := 69) rfl))) (Own.Lay.of (nw_NV tb) rfl) (by decide) rfl rfl d_prog_12_method_1_39 42 ((a115, .inr (.int, k116, (Own.tO 16 (fun _ => 0)))) :: (a108, .inr ((.object "java/lang/Object"), k109, (Own.tab 16 (fun _ => .null)))) :: (a101, .inr ((.object "java/lang/String"), k102, (Own.tN 16 (fun _ => false) (fun _ => t)))) :: (t, o_NV (.ref a101) (.ref a108) (.ref a115) (.int (0 : Int32))) :: cs) rfl (fun h119 H120 => ?_)
    exact Own.W.vret ok d_prog_12_method_1_42 ⟨a101, a108, a115, k102, k109, k116, 16, fun _ => 0, fun _ => false, fun _ => .null, fun _ => t, fun _ => 0, 0, rfl, (((H120.pull 1 ((a108, .inr ((.object "java/lang/Object"), k109, (Own.tab 16 (fun _ => .null)))) :: (a115, .inr (.int, k116, (Own.tO 16 (fun _ => 0)))) :: (a101, .inr ((.object "java/lang/String"), k102, (Own.tN 16 (fun _ => false) (fun _ => t)))) :: (t, o_NV (.ref a101) (.ref a108) (.ref a115) (.int ((0 : Nat).toInt32))) :: cs) rfl rfl).pull 2 ((a101, .inr ((.object "java/lang/String"), k102, (Own.tN 16 (fun _ => false) (fun _ => t)))) :: (a108, .inr ((.object "java/lang/Object"), k109, (Own.tab 16 (fun _ => .null)))) :: (a115, .inr (.int, k116, (Own.tO 16 (fun _ => 0)))) :: (t, o_NV (.ref a101) (.ref a108) (.ref a115) (.int ((0 : Nat).toInt32))) :: cs) rfl rfl).pull 3 ((t, o_NV (.ref a101) (.ref a108) (.ref a115) (.int ((0 : Nat).toInt32))) :: (a101, .inr ((.object "java/lang/String"), k102, (Own.tN 16 (fun _ => false) (fun _ => t)))) :: (a108, .inr ((.object "java/lang/Object"), k109, (Own.tab 16 (fun _ => .null)))) :: (a115, .inr (.int, k116, (Own.tO 16 (fun _ => 0)))) :: cs) rfl rfl), ⟨Own.NT.zero (by decide), rfl, by decide, fun _ => Or.inl rfl, fun _ q => (by cases q), O105, O112⟩⟩
  · refine Own.W.aloadN ok d_prog_12_method_1_0 1 rfl rfl ?_
    refine Own.W.callI ok tb (a := t) (argsL := []) (rest := []) 40 41 43 44 rfl rfl rfl rfl d_prog_12_method_1_1 pd_9 (c_amap l tb t h) 0 0 0 4 ?_
    rintro _ _ ⟨rfl, rfl⟩
    show Own.W l Z _ K _ h 0 0 4 #[.val (.ref t), .val (.int (6 : Int32)), .unset] []
    refine Own.W.iloadN ok d_prog_12_method_1_4 5 rfl ?_
    refine Own.W.iconst ok d_prog_12_method_1_5 6 (1 : Int32) rfl ?_
    refine Own.W.callS ok tb (argsL := [(.int (6 : Int32)), (.int (1 : Int32))]) (rest := []) 46 47 48 49 rfl rfl rfl rfl d_prog_12_method_1_6 pd_11 (c_max l tb (6 : Int32) (1 : Int32) (6 : Int32) h (by decide)) 0 0 0 9 ?_
    rintro _ _ ⟨rfl, rfl⟩
    show Own.W l Z _ K _ h 0 0 9 #[.val (.ref t), .val (.int (6 : Int32)), .unset] [(.int (6 : Int32))]
    refine Own.W.iconst ok d_prog_12_method_1_9 10 (2 : Int32) rfl ?_
    refine Own.W.imulV ok d_prog_12_method_1_10 11 (12 : Int32) (by decide) ?_
    refine Own.W.callS ok tb (argsL := [(.int (12 : Int32))]) (rest := []) 50 51 52 53 rfl rfl rfl rfl d_prog_12_method_1_11 pd_10 (c_hob12 l tb  h) 0 0 0 14 ?_
    rintro _ _ ⟨rfl, rfl⟩
    show Own.W l Z _ K _ h 0 0 14 #[.val (.ref t), .val (.int (6 : Int32)), .unset] [(.int (8 : Int32))]
    refine Own.W.iconst ok d_prog_12_method_1_14 15 (2 : Int32) rfl ?_
    refine Own.W.imulV ok d_prog_12_method_1_15 16 (16 : Int32) (by decide) ?_
    refine Own.W.istoreN ok d_prog_12_method_1_16 17 #[.val (.ref t), .val (.int (6 : Int32)), .val (.int (16 : Int32))] rfl ?_
    refine Own.W.aloadN ok d_prog_12_method_1_17 18 rfl rfl ?_
    refine Own.W.iloadN ok d_prog_12_method_1_18 19 rfl ?_
    refine Own.W.newR ok tb H 59 60 rfl rfl d_prog_12_method_1_19 16 (Own.tN 16 (fun _ => false) (fun _ => t)) rfl 1 16 22 (by decide) (by decide) (fun a121 k122 h123 O125 H124 => ?_)
    show Own.W l Z _ K _ h123 1 16 22 #[.val (.ref t), .val (.int (6 : Int32)), .val (.int (16 : Int32))] [(.ref a121), (.ref t)]
    refine Own.W.putF ok tb H124 (i := 1) (j := 0) (ty := (.array (.object "java/lang/String"))) (w' := (.ref a121)) rfl rfl 61 35 rfl rfl Via.refl (Or.inl (tb _ (List.mem_of_getElem? (i := 62) rfl))) (Own.Lay.of (nw_NV tb) rfl) (by decide) rfl rfl d_prog_12_method_1_22 25 ((a121, .inr ((.object "java/lang/String"), k122, (Own.tN 16 (fun _ => false) (fun _ => t)))) :: (t, o_NV (.ref a121) .null .null (.int (0 : Int32))) :: cs) rfl (fun h126 H127 => ?_)
    refine Own.W.aloadN ok d_prog_12_method_1_25 26 rfl rfl ?_
    refine Own.W.iloadN ok d_prog_12_method_1_26 27 rfl ?_
    refine Own.W.newR ok tb H127 63 64 rfl rfl d_prog_12_method_1_27 16 (Own.tab 16 (fun _ => .null)) rfl 2 32 30 (by decide) (by decide) (fun a128 k129 h130 O132 H131 => ?_)
    show Own.W l Z _ K _ h130 2 32 30 #[.val (.ref t), .val (.int (6 : Int32)), .val (.int (16 : Int32))] [(.ref a128), (.ref t)]
    refine Own.W.putF ok tb H131 (i := 2) (j := 1) (ty := (.array (.object "java/lang/Object"))) (w' := (.ref a128)) rfl rfl 65 35 rfl rfl Via.refl (Or.inl (tb _ (List.mem_of_getElem? (i := 66) rfl))) (Own.Lay.of (nw_NV tb) rfl) (by decide) rfl rfl d_prog_12_method_1_30 33 ((a128, .inr ((.object "java/lang/Object"), k129, (Own.tab 16 (fun _ => .null)))) :: (a121, .inr ((.object "java/lang/String"), k122, (Own.tN 16 (fun _ => false) (fun _ => t)))) :: (t, o_NV (.ref a121) (.ref a128) .null (.int (0 : Int32))) :: cs) rfl (fun h133 H134 => ?_)
    refine Own.W.aloadN ok d_prog_12_method_1_33 34 rfl rfl ?_
    refine Own.W.iloadN ok d_prog_12_method_1_34 35 rfl ?_
    refine Own.W.iconst ok d_prog_12_method_1_35 36 (2 : Int32) rfl ?_
    refine Own.W.idiv ok d_prog_12_method_1_36 37 (by decide) ?_
    refine Own.W.newP ok tb H134 67 rfl d_prog_12_method_1_37 8 (Own.tO 16 (fun _ => 0)) rfl 3 40 39 (by decide) (by decide) (fun a135 k136 h137 H138 => ?_)
    show Own.W l Z _ K _ h137 3 40 39 #[.val (.ref t), .val (.int (6 : Int32)), .val (.int (16 : Int32))] [(.ref a135), (.ref t)]
    refine Own.W.putF ok tb H138 (i := 3) (j := 2) (ty := (.array .int)) (w' := (.ref a135)) rfl rfl 68 35 rfl rfl Via.refl (Or.inl (tb _ (List.mem_of_getElem? (i := 69) rfl))) (Own.Lay.of (nw_NV tb) rfl) (by decide) rfl rfl d_prog_12_method_1_39 42 ((a135, .inr (.int, k136, (Own.tO 16 (fun _ => 0)))) :: (a128, .inr ((.object "java/lang/Object"), k129, (Own.tab 16 (fun _ => .null)))) :: (a121, .inr ((.object "java/lang/String"), k122, (Own.tN 16 (fun _ => false) (fun _ => t)))) :: (t, o_NV (.ref a121) (.ref a128) (.ref a135) (.int (0 : Int32))) :: cs) rfl (fun h139 H140 => ?_)
    exact Own.W.vret ok d_prog_12_method_1_42 ⟨a121, a128, a135, k122, k129, k136, 16, fun _ => 0, fun _ => false, fun _ => .null, fun _ => t, fun _ => 0, 0, rfl, (((H140.pull 1 ((a128, .inr ((.object "java/lang/Object"), k129, (Own.tab 16 (fun _ => .null)))) :: (a135, .inr (.int, k136, (Own.tO 16 (fun _ => 0)))) :: (a121, .inr ((.object "java/lang/String"), k122, (Own.tN 16 (fun _ => false) (fun _ => t)))) :: (t, o_NV (.ref a121) (.ref a128) (.ref a135) (.int ((0 : Nat).toInt32))) :: cs) rfl rfl).pull 2 ((a121, .inr ((.object "java/lang/String"), k122, (Own.tN 16 (fun _ => false) (fun _ => t)))) :: (a128, .inr ((.object "java/lang/Object"), k129, (Own.tab 16 (fun _ => .null)))) :: (a135, .inr (.int, k136, (Own.tO 16 (fun _ => 0)))) :: (t, o_NV (.ref a121) (.ref a128) (.ref a135) (.int ((0 : Nat).toInt32))) :: cs) rfl rfl).pull 3 ((t, o_NV (.ref a121) (.ref a128) (.ref a135) (.int ((0 : Nat).toInt32))) :: (a121, .inr ((.object "java/lang/String"), k122, (Own.tN 16 (fun _ => false) (fun _ => t)))) :: (a128, .inr ((.object "java/lang/Object"), k129, (Own.tab 16 (fun _ => .null)))) :: (a135, .inr (.int, k136, (Own.tO 16 (fun _ => 0)))) :: cs) rfl rfl), ⟨Own.NT.zero (by decide), rfl, by decide, fun _ => Or.inl rfl, fun _ q => (by cases q), O125, O132⟩⟩
  · refine Own.W.aloadN ok d_prog_12_method_1_0 1 rfl rfl ?_
    refine Own.W.callI ok tb (a := t) (argsL := []) (rest := []) 40 41 43 44 rfl rfl rfl rfl d_prog_12_method_1_1 pd_9 (c_amap l tb t h) 0 0 0 4 ?_
    rintro _ _ ⟨rfl, rfl⟩
    show Own.W l Z _ K _ h 0 0 4 #[.val (.ref t), .val (.int (7 : Int32)), .unset] []
    refine Own.W.iloadN ok d_prog_12_method_1_4 5 rfl ?_
    refine Own.W.iconst ok d_prog_12_method_1_5 6 (1 : Int32) rfl ?_
    refine Own.W.callS ok tb (argsL := [(.int (7 : Int32)), (.int (1 : Int32))]) (rest := []) 46 47 48 49 rfl rfl rfl rfl d_prog_12_method_1_6 pd_11 (c_max l tb (7 : Int32) (1 : Int32) (7 : Int32) h (by decide)) 0 0 0 9 ?_
    rintro _ _ ⟨rfl, rfl⟩
    show Own.W l Z _ K _ h 0 0 9 #[.val (.ref t), .val (.int (7 : Int32)), .unset] [(.int (7 : Int32))]
    refine Own.W.iconst ok d_prog_12_method_1_9 10 (2 : Int32) rfl ?_
    refine Own.W.imulV ok d_prog_12_method_1_10 11 (14 : Int32) (by decide) ?_
    refine Own.W.callS ok tb (argsL := [(.int (14 : Int32))]) (rest := []) 50 51 52 53 rfl rfl rfl rfl d_prog_12_method_1_11 pd_10 (c_hob14 l tb  h) 0 0 0 14 ?_
    rintro _ _ ⟨rfl, rfl⟩
    show Own.W l Z _ K _ h 0 0 14 #[.val (.ref t), .val (.int (7 : Int32)), .unset] [(.int (8 : Int32))]
    refine Own.W.iconst ok d_prog_12_method_1_14 15 (2 : Int32) rfl ?_
    refine Own.W.imulV ok d_prog_12_method_1_15 16 (16 : Int32) (by decide) ?_
    refine Own.W.istoreN ok d_prog_12_method_1_16 17 #[.val (.ref t), .val (.int (7 : Int32)), .val (.int (16 : Int32))] rfl ?_
    refine Own.W.aloadN ok d_prog_12_method_1_17 18 rfl rfl ?_
    refine Own.W.iloadN ok d_prog_12_method_1_18 19 rfl ?_
    refine Own.W.newR ok tb H 59 60 rfl rfl d_prog_12_method_1_19 16 (Own.tN 16 (fun _ => false) (fun _ => t)) rfl 1 16 22 (by decide) (by decide) (fun a141 k142 h143 O145 H144 => ?_)
    show Own.W l Z _ K _ h143 1 16 22 #[.val (.ref t), .val (.int (7 : Int32)), .val (.int (16 : Int32))] [(.ref a141), (.ref t)]
    refine Own.W.putF ok tb H144 (i := 1) (j := 0) (ty := (.array (.object "java/lang/String"))) (w' := (.ref a141)) rfl rfl 61 35 rfl rfl Via.refl (Or.inl (tb _ (List.mem_of_getElem? (i := 62) rfl))) (Own.Lay.of (nw_NV tb) rfl) (by decide) rfl rfl d_prog_12_method_1_22 25 ((a141, .inr ((.object "java/lang/String"), k142, (Own.tN 16 (fun _ => false) (fun _ => t)))) :: (t, o_NV (.ref a141) .null .null (.int (0 : Int32))) :: cs) rfl (fun h146 H147 => ?_)
    refine Own.W.aloadN ok d_prog_12_method_1_25 26 rfl rfl ?_
    refine Own.W.iloadN ok d_prog_12_method_1_26 27 rfl ?_
    refine Own.W.newR ok tb H147 63 64 rfl rfl d_prog_12_method_1_27 16 (Own.tab 16 (fun _ => .null)) rfl 2 32 30 (by decide) (by decide) (fun a148 k149 h150 O152 H151 => ?_)
    show Own.W l Z _ K _ h150 2 32 30 #[.val (.ref t), .val (.int (7 : Int32)), .val (.int (16 : Int32))] [(.ref a148), (.ref t)]
    refine Own.W.putF ok tb H151 (i := 2) (j := 1) (ty := (.array (.object "java/lang/Object"))) (w' := (.ref a148)) rfl rfl 65 35 rfl rfl Via.refl (Or.inl (tb _ (List.mem_of_getElem? (i := 66) rfl))) (Own.Lay.of (nw_NV tb) rfl) (by decide) rfl rfl d_prog_12_method_1_30 33 ((a148, .inr ((.object "java/lang/Object"), k149, (Own.tab 16 (fun _ => .null)))) :: (a141, .inr ((.object "java/lang/String"), k142, (Own.tN 16 (fun _ => false) (fun _ => t)))) :: (t, o_NV (.ref a141) (.ref a148) .null (.int (0 : Int32))) :: cs) rfl (fun h153 H154 => ?_)
    refine Own.W.aloadN ok d_prog_12_method_1_33 34 rfl rfl ?_
    refine Own.W.iloadN ok d_prog_12_method_1_34 35 rfl ?_
    refine Own.W.iconst ok d_prog_12_method_1_35 36 (2 : Int32) rfl ?_
    refine Own.W.idiv ok d_prog_12_method_1_36 37 (by decide) ?_
    refine Own.W.newP ok tb H154 67 rfl d_prog_12_method_1_37 8 (Own.tO 16 (fun _ => 0)) rfl 3 40 39 (by decide) (by decide) (fun a155 k156 h157 H158 => ?_)
    show Own.W l Z _ K _ h157 3 40 39 #[.val (.ref t), .val (.int (7 : Int32)), .val (.int (16 : Int32))] [(.ref a155), (.ref t)]
    refine Own.W.putF ok tb H158 (i := 3) (j := 2) (ty := (.array .int)) (w' := (.ref a155)) rfl rfl 68 35 rfl rfl Via.refl (Or.inl (tb _ (List.mem_of_getElem? (i := 69) rfl))) (Own.Lay.of (nw_NV tb) rfl) (by decide) rfl rfl d_prog_12_method_1_39 42 ((a155, .inr (.int, k156, (Own.tO 16 (fun _ => 0)))) :: (a148, .inr ((.object "java/lang/Object"), k149, (Own.tab 16 (fun _ => .null)))) :: (a141, .inr ((.object "java/lang/String"), k142, (Own.tN 16 (fun _ => false) (fun _ => t)))) :: (t, o_NV (.ref a141) (.ref a148) (.ref a155) (.int (0 : Int32))) :: cs) rfl (fun h159 H160 => ?_)
    exact Own.W.vret ok d_prog_12_method_1_42 ⟨a141, a148, a155, k142, k149, k156, 16, fun _ => 0, fun _ => false, fun _ => .null, fun _ => t, fun _ => 0, 0, rfl, (((H160.pull 1 ((a148, .inr ((.object "java/lang/Object"), k149, (Own.tab 16 (fun _ => .null)))) :: (a155, .inr (.int, k156, (Own.tO 16 (fun _ => 0)))) :: (a141, .inr ((.object "java/lang/String"), k142, (Own.tN 16 (fun _ => false) (fun _ => t)))) :: (t, o_NV (.ref a141) (.ref a148) (.ref a155) (.int ((0 : Nat).toInt32))) :: cs) rfl rfl).pull 2 ((a141, .inr ((.object "java/lang/String"), k142, (Own.tN 16 (fun _ => false) (fun _ => t)))) :: (a148, .inr ((.object "java/lang/Object"), k149, (Own.tab 16 (fun _ => .null)))) :: (a155, .inr (.int, k156, (Own.tO 16 (fun _ => 0)))) :: (t, o_NV (.ref a141) (.ref a148) (.ref a155) (.int ((0 : Nat).toInt32))) :: cs) rfl rfl).pull 3 ((t, o_NV (.ref a141) (.ref a148) (.ref a155) (.int ((0 : Nat).toInt32))) :: (a141, .inr ((.object "java/lang/String"), k142, (Own.tN 16 (fun _ => false) (fun _ => t)))) :: (a148, .inr ((.object "java/lang/Object"), k149, (Own.tab 16 (fun _ => .null)))) :: (a155, .inr (.int, k156, (Own.tO 16 (fun _ => 0)))) :: cs) rfl rfl), ⟨Own.NT.zero (by decide), rfl, by decide, fun _ => Or.inl rfl, fun _ q => (by cases q), O145, O152⟩⟩
set_option maxRecDepth 65536 in
set_option maxHeartbeats 4000000 in
theorem c_comp2 (l : Launch) {Z : State} {a0 : Array Value} (tb : Own.Tb Z a0 tables_1) (ch : Addr) (b : Addr) (kc : ClassId) (kb : ClassId) (p : Int32) (h : Heap) (cs : List (Addr × Own.Pc)) (H : Own.HS Z h ((ch, .inr (.char, kc, [(.int p)])) :: (b, .inr (.byte, kb, [(.int (0 : Int32))])) :: cs)) (hp : ¬ ((255 : Int32) < p)) :
    Own.Con l Z (⟨"java/lang/StringUTF16", "compress", "([CI[BII)I"⟩ : MethodName) jdk_52_method_21_code 7 (some .int) ({ frames := 0, cells := 0, slots := 0, locals := 0 } : Room) #[(.ref ch), (.int (0 : Int32)), (.ref b), (.int (0 : Int32)), (.int (1 : Int32))] h (fun rr h' => rr = some (.int (1 : Int32)) ∧ Own.HS Z h' ((ch, .inr (.char, kc, [(.int p)])) :: (b, .inr (.byte, kb, [(.int (Own.by8 p))])) :: cs)) := by
  refine Own.Con.of (plainFor_of_name (by first | (simp [plainName, overriddenIn]; done) | decide +kernel)) #[.val (.ref ch), .val (.int (0 : Int32)), .val (.ref b), .val (.int (0 : Int32)), .val (.int (1 : Int32)), .unset, .unset] (fun m => by first | rfl | (simp [entryFrame, mkF, argsToLocals, Value.category, maxLocals]; done)) (fun K ok => ?_)
  refine Own.W.iconst ok d_jdk_52_method_21_0 1 (0 : Int32) rfl ?_
  refine Own.W.istore ok d_jdk_52_method_21_1 3 #[.val (.ref ch), .val (.int (0 : Int32)), .val (.ref b), .val (.int (0 : Int32)), .val (.int (1 : Int32)), .val (.int (0 : Int32)), .unset] rfl ?_
  refine Own.W.iload ok d_jdk_52_method_21_3 5 rfl ?_
  refine Own.W.iload ok d_jdk_52_method_21_5 7 rfl ?_
  refine Own.W.icmpF ok d_jdk_52_method_21_7 10 (by decide : (0 : Int32) < (1 : Int32)) ?_
  refine Own.W.aloadN ok d_jdk_52_method_21_10 11 rfl rfl ?_
  refine Own.W.iloadN ok d_jdk_52_method_21_11 12 rfl ?_
  refine Own.W.cald ok H (i := 0) rfl (by decide) rfl d_jdk_52_method_21_12 13 ?_
  refine Own.W.istore ok d_jdk_52_method_21_13 15 #[.val (.ref ch), .val (.int (0 : Int32)), .val (.ref b), .val (.int (0 : Int32)), .val (.int (1 : Int32)), .val (.int (0 : Int32)), .val (.int p)] rfl ?_
  refine Own.W.iload ok d_jdk_52_method_21_15 17 rfl ?_
  refine Own.W.sipush ok d_jdk_52_method_21_17 20 (255 : Int32) rfl ?_
  refine Own.W.icmpT ok d_jdk_52_method_21_20 26 hp ?_
  refine Own.W.aloadN ok d_jdk_52_method_21_26 27 rfl rfl ?_
  refine Own.W.iloadN ok d_jdk_52_method_21_27 28 rfl ?_
  refine Own.W.iload ok d_jdk_52_method_21_28 30 rfl ?_
  refine Own.W.i2b ok d_jdk_52_method_21_30 31 ?_
  refine Own.W.bast ok H (i := 1) rfl (by decide) (Nat.le_of_ble_eq_true rfl) (Own.by8 p) rfl d_jdk_52_method_21_31 32 ((ch, .inr (.char, kc, [(.int p)])) :: (b, .inr (.byte, kb, [(.int (Own.by8 p))])) :: cs) rfl (fun h1 H2 => ?_)
  refine Own.W.iinc ok d_jdk_52_method_21_32 35 (1 : Int32) #[.val (.ref ch), .val (.int (1 : Int32)), .val (.ref b), .val (.int (0 : Int32)), .val (.int (1 : Int32)), .val (.int (0 : Int32)), .val (.int p)] rfl (by decide) rfl ?_
  refine Own.W.iinc ok d_jdk_52_method_21_35 38 (1 : Int32) #[.val (.ref ch), .val (.int (1 : Int32)), .val (.ref b), .val (.int (1 : Int32)), .val (.int (1 : Int32)), .val (.int (0 : Int32)), .val (.int p)] rfl (by decide) rfl ?_
  refine Own.W.iinc ok d_jdk_52_method_21_38 41 (1 : Int32) #[.val (.ref ch), .val (.int (1 : Int32)), .val (.ref b), .val (.int (1 : Int32)), .val (.int (1 : Int32)), .val (.int (1 : Int32)), .val (.int p)] rfl (by decide) rfl ?_
  refine Own.W.goto ok d_jdk_52_method_21_41 3 ?_
  refine Own.W.iload ok d_jdk_52_method_21_3 5 rfl ?_
  refine Own.W.iload ok d_jdk_52_method_21_5 7 rfl ?_
  refine Own.W.icmpT ok d_jdk_52_method_21_7 44 (by decide : ¬ ((1 : Int32) < (1 : Int32))) ?_
  refine Own.W.iload ok d_jdk_52_method_21_44 46 rfl ?_
  exact Own.W.iret ok d_jdk_52_method_21_46 rfl ⟨rfl, H2⟩
set_option maxRecDepth 65536 in
set_option maxHeartbeats 4000000 in
theorem c_comp1 (l : Launch) {Z : State} {a0 : Array Value} (tb : Own.Tb Z a0 tables_1) (ch : Addr) (kc : ClassId) (p : Int32) (h : Heap) (cs : List (Addr × Own.Pc)) (H : Own.HS Z h ((ch, .inr (.char, kc, [(.int p)])) :: cs)) (hp : ¬ ((255 : Int32) < p)) :
    Own.Con l Z (⟨"java/lang/StringUTF16", "compress", "([CII)[B"⟩ : MethodName) jdk_52_method_16_code 6 (some (.array .byte)) ({ frames := 1, cells := 1, slots := 1, locals := 24 } : Room) #[(.ref ch), (.int (0 : Int32)), (.int (1 : Int32))] h (fun rr h' => ∃ (b : Addr) (kb : ClassId), rr = some (.ref b) ∧ Own.HS Z h' ((ch, .inr (.char, kc, [(.int p)])) :: (b, .inr (.byte, kb, [(.int (Own.by8 p))])) :: cs)) := by
  refine Own.Con.of (plainFor_of_name (by first | (simp [plainName, overriddenIn]; done) | decide +kernel)) #[.val (.ref ch), .val (.int (0 : Int32)), .val (.int (1 : Int32)), .unset, .unset, .unset] (fun m => by first | rfl | (simp [entryFrame, mkF, argsToLocals, Value.category, maxLocals]; done)) (fun K ok => ?_)
  refine Own.W.iloadN ok d_jdk_52_method_16_0 1 rfl ?_
  refine Own.W.newP ok tb H 23 rfl d_jdk_52_method_16_1 1 [(.int (0 : Int32))] rfl 1 1 3 (by decide) (by decide) (fun a1 k2 h3 H4 => ?_)
  show Own.W l Z _ K _ h3 1 1 3 #[.val (.ref ch), .val (.int (0 : Int32)), .val (.int (1 : Int32)), .unset, .unset, .unset] [(.ref a1)]
  refine Own.W.astoreN ok d_jdk_52_method_16_3 4 #[.val (.ref ch), .val (.int (0 : Int32)), .val (.int (1 : Int32)), .val (.ref a1), .unset, .unset] rfl rfl ?_
  refine Own.W.aloadN ok d_jdk_52_method_16_4 5 rfl rfl ?_
  refine Own.W.iloadN ok d_jdk_52_method_16_5 6 rfl ?_
  refine Own.W.aloadN ok d_jdk_52_method_16_6 7 rfl rfl ?_
  refine Own.W.iconst ok d_jdk_52_method_16_7 8 (0 : Int32) rfl ?_
  refine Own.W.iloadN ok d_jdk_52_method_16_8 9 rfl ?_
  have H5 : Own.HS Z h3 ((ch, .inr (.char, kc, [(.int p)])) :: (a1, .inr (.byte, k2, [(.int (0 : Int32))])) :: cs) := H4.pull 1 _ rfl rfl
  refine Own.W.callS ok tb (argsL := [(.ref ch), (.int (0 : Int32)), (.ref a1), (.int (0 : Int32)), (.int (1 : Int32))]) (rest := []) 24 25 21 26 rfl rfl rfl rfl d_jdk_52_method_16_9 pd_12 (c_comp2 l tb ch a1 kc k2 p h3 (cs) H5 hp) 0 1 1 12 ?_
  rintro _ h6 ⟨rfl, H7⟩
  show Own.W l Z _ K _ h6 1 1 12 #[.val (.ref ch), .val (.int (0 : Int32)), .val (.int (1 : Int32)), .val (.ref a1), .unset, .unset] [(.int (1 : Int32))]
  refine Own.W.istore ok d_jdk_52_method_16_12 14 #[.val (.ref ch), .val (.int (0 : Int32)), .val (.int (1 : Int32)), .val (.ref a1), .val (.int (1 : Int32)), .unset] rfl ?_
  refine Own.W.iload ok d_jdk_52_method_16_14 16 rfl ?_
  refine Own.W.iloadN ok d_jdk_52_method_16_16 17 rfl ?_
  refine Own.W.icmpT ok d_jdk_52_method_16_17 57 (by decide : (1 : Int32) = (1 : Int32)) ?_
  refine Own.W.aloadN ok d_jdk_52_method_16_57 58 rfl rfl ?_
  exact Own.W.aret ok d_jdk_52_method_16_58 ⟨a1, k2, rfl, H7⟩
set_option maxRecDepth 65536 in
set_option maxHeartbeats 4000000 in
theorem c_cod (l : Launch) {Z : State} {a0 : Array Value} (tb : Own.Tb Z a0 tables_1) (b : Addr) (kb : ClassId) (p : Int32) (h : Heap) (cs : List (Addr × Own.Pc)) (H : Own.HS Z h ((b, .inr (.byte, kb, [(.int (Own.by8 p))])) :: cs)) :
    Own.Con l Z (⟨"java/lang/StringUTF16", "coderFromArrayLen", "([BI)B"⟩ : MethodName) jdk_52_method_15_code 2 (some .byte) ({ frames := 0, cells := 0, slots := 0, locals := 0 } : Room) #[(.ref b), (.int (1 : Int32))] h (fun rr h' => rr = some (.int (0 : Int32)) ∧ h = h') := by
  refine Own.Con.of (plainFor_of_name (by first | (simp [plainName, overriddenIn]; done) | decide +kernel)) #[.val (.ref b), .val (.int (1 : Int32))] (fun m => by first | rfl | (simp [entryFrame, mkF, argsToLocals, Value.category, maxLocals]; done)) (fun K ok => ?_)
  refine Own.W.iloadN ok d_jdk_52_method_15_0 1 rfl ?_
  refine Own.W.aloadN ok d_jdk_52_method_15_1 2 rfl rfl ?_
  refine Own.W.alen ok H (i := 0) rfl d_jdk_52_method_15_2 3 (1 : Int32) rfl ?_
  refine Own.W.isubV ok d_jdk_52_method_15_3 4 (0 : Int32) (by decide) ?_
  refine Own.W.bipush ok d_jdk_52_method_15_4 6 (31 : Int32) rfl ?_
  refine Own.W.iushrV ok d_jdk_52_method_15_6 7 (0 : Int32) (by decide) ?_
  refine Own.W.i2bV ok d_jdk_52_method_15_7 8 (0 : Int32) (by decide) ?_
  exact Own.W.iret ok d_jdk_52_method_15_8 rfl ⟨rfl, rfl⟩
set_option maxRecDepth 65536 in
set_option maxHeartbeats 4000000 in
theorem c_s4 (l : Launch) {Z : State} {a0 : Array Value} (tb : Own.Tb Z a0 tables_1) (a : Addr) (ch : Addr) (kc : ClassId) (c0 : Int32) (p : Int32) (h : Heap) (cs : List (Addr × Own.Pc)) (H : Own.HS Z h ((a, o_Str .null (.int (0 : Int32)) (.int (0 : Int32)) (.int (0 : Int32))) :: (ch, .inr (.char, kc, [(.int p)])) :: cs)) (SC : Sta Z Z.heap "java/lang/String" "COMPACT_STRINGS" "Z" (.int c0)) (hc0 : ¬ (c0 = (0 : Int32))) (hp : ¬ ((255 : Int32) < p)) :
    Own.Con l Z (⟨"java/lang/String", "<init>", "([CIILjava/lang/Void;)V"⟩ : MethodName) jdk_42_method_149_code 6 none ({ frames := 2, cells := 1, slots := 1, locals := 48 } : Room) #[(.ref a), (.ref ch), (.int (0 : Int32)), (.int (1 : Int32)), .null] h (fun rr h' => ∃ (b : Addr) (kb : ClassId), rr = none ∧ Own.HS Z h' ((a, o_Str (.ref b) (.int (0 : Int32)) (.int (0 : Int32)) (.int (0 : Int32))) :: (b, .inr (.byte, kb, [(.int (Own.by8 p))])) :: cs)) := by
  refine Own.Con.of (plainFor_of_name (by first | (simp [plainName, overriddenIn]; done) | decide +kernel)) #[.val (.ref a), .val (.ref ch), .val (.int (0 : Int32)), .val (.int (1 : Int32)), .val .null, .unset] (fun m => by first | rfl | (simp [entryFrame, mkF, argsToLocals, Value.category, maxLocals]; done)) (fun K ok => ?_)
  refine Own.W.aloadN ok d_jdk_42_method_149_0 1 rfl rfl ?_
  refine Own.W.initO ok tb 15 16 17 rfl rfl rfl d_jdk_42_method_149_1 0 4 ?_
  refine Own.W.iloadN ok d_jdk_42_method_149_4 5 rfl ?_
  refine Own.W.ifT ok d_jdk_42_method_149_5 27 (by decide : ¬ ((1 : Int32) = (0 : Int32))) ?_
  refine Own.W.getS ok tb 18 rfl Via.refl (H.sta SC) d_jdk_42_method_149_27 30 ?_
  refine Own.W.ifF ok d_jdk_42_method_149_30 33 hc0 ?_
  refine Own.W.aloadN ok d_jdk_42_method_149_33 34 rfl rfl ?_
  refine Own.W.iloadN ok d_jdk_42_method_149_34 35 rfl ?_
  refine Own.W.iloadN ok d_jdk_42_method_149_35 36 rfl ?_
  have H1 : Own.HS Z h ((ch, .inr (.char, kc, [(.int p)])) :: (a, o_Str .null (.int (0 : Int32)) (.int (0 : Int32)) (.int (0 : Int32))) :: cs) := H.pull 1 _ rfl rfl
  refine Own.W.callS ok tb (argsL := [(.ref ch), (.int (0 : Int32)), (.int (1 : Int32))]) (rest := []) 19 20 21 22 rfl rfl rfl rfl d_jdk_42_method_149_36 pd_13 (c_comp1 l tb ch kc p h ((a, o_Str .null (.int (0 : Int32)) (.int (0 : Int32)) (.int (0 : Int32))) :: cs) H1 hp) 0 1 1 39 ?_
  rintro _ h2 ⟨b4, kb5, rfl, H3⟩
  show Own.W l Z _ K _ h2 1 1 39 #[.val (.ref a), .val (.ref ch), .val (.int (0 : Int32)), .val (.int (1 : Int32)), .val .null, .unset] [(.ref b4)]
  refine Own.W.astore ok d_jdk_42_method_149_39 41 #[.val (.ref a), .val (.ref ch), .val (.int (0 : Int32)), .val (.int (1 : Int32)), .val .null, .val (.ref b4)] rfl rfl ?_
  refine Own.W.aloadN ok d_jdk_42_method_149_41 42 rfl rfl ?_
  refine Own.W.aload ok d_jdk_42_method_149_42 44 rfl rfl ?_
  refine Own.W.iloadN ok d_jdk_42_method_149_44 45 rfl ?_
  have H6 : Own.HS Z h2 ((b4, .inr (.byte, kb5, [(.int (Own.by8 p))])) :: (ch, .inr (.char, kc, [(.int p)])) :: (a, o_Str .null (.int (0 : Int32)) (.int (0 : Int32)) (.int (0 : Int32))) :: cs) := H3.pull 1 _ rfl rfl
  refine Own.W.callS ok tb (argsL := [(.ref b4), (.int (1 : Int32))]) (rest := [(.ref a)]) 27 28 21 29 rfl rfl rfl rfl d_jdk_42_method_149_45 pd_14 (c_cod l tb b4 kb5 p h2 ((ch, .inr (.char, kc, [(.int p)])) :: (a, o_Str .null (.int (0 : Int32)) (.int (0 : Int32)) (.int (0 : Int32))) :: cs) H6) 1 1 1 48 ?_
  rintro _ _ ⟨rfl, rfl⟩
  show Own.W l Z _ K _ h2 1 1 48 #[.val (.ref a), .val (.ref ch), .val (.int (0 : Int32)), .val (.int (1 : Int32)), .val .null, .val (.ref b4)] [(.int (0 : Int32)), (.ref a)]
  refine Own.W.putF ok tb H6 (i := 2) (j := 1) (ty := .byte) (w' := (.int (0 : Int32))) rfl rfl 30 6 rfl rfl Via.refl (Or.inr ⟨(tb _ (List.mem_of_getElem? (i := 31) rfl)), rfl, rfl⟩) (Own.Lay.of (nw_Str tb) rfl) (by decide) rfl rfl d_jdk_42_method_149_48 51 ((b4, .inr (.byte, kb5, [(.int (Own.by8 p))])) :: (ch, .inr (.char, kc, [(.int p)])) :: (a, o_Str .null (.int (0 : Int32)) (.int (0 : Int32)) (.int (0 : Int32))) :: cs) rfl (fun h7 H8 => ?_)
  refine Own.W.aloadN ok d_jdk_42_method_149_51 52 rfl rfl ?_
  refine Own.W.aload ok d_jdk_42_method_149_52 54 rfl rfl ?_
  refine Own.W.putF ok tb H8 (i := 2) (j := 0) (ty := (.array .byte)) (w' := (.ref b4)) rfl rfl 32 6 rfl rfl Via.refl (Or.inr ⟨(tb _ (List.mem_of_getElem? (i := 33) rfl)), rfl, rfl⟩) (Own.Lay.of (nw_Str tb) rfl) (by decide) rfl rfl d_jdk_42_method_149_54 57 ((b4, .inr (.byte, kb5, [(.int (Own.by8 p))])) :: (ch, .inr (.char, kc, [(.int p)])) :: (a, o_Str (.ref b4) (.int (0 : Int32)) (.int (0 : Int32)) (.int (0 : Int32))) :: cs) rfl (fun h9 H10 => ?_)
  exact Own.W.vret ok d_jdk_42_method_149_57 ⟨b4, kb5, rfl, ((H10.pull 2 ((a, o_Str (.ref b4) (.int (0 : Int32)) (.int (0 : Int32)) (.int (0 : Int32))) :: (b4, .inr (.byte, kb5, [(.int (Own.by8 p))])) :: (ch, .inr (.char, kc, [(.int p)])) :: cs) rfl rfl).drop (List.Sublist.cons_cons _ (List.Sublist.cons_cons _ (List.Sublist.cons _ (List.Sublist.refl _)))))⟩
set_option maxRecDepth 65536 in
set_option maxHeartbeats 4000000 in
theorem c_s1c (l : Launch) {Z : State} {a0 : Array Value} (tb : Own.Tb Z a0 tables_1) (a : Addr) (ch : Addr) (kc : ClassId) (c0 : Int32) (p : Int32) (h : Heap) (cs : List (Addr × Own.Pc)) (H : Own.HS Z h ((a, o_Str .null (.int (0 : Int32)) (.int (0 : Int32)) (.int (0 : Int32))) :: (ch, .inr (.char, kc, [(.int p)])) :: cs)) (SC : Sta Z Z.heap "java/lang/String" "COMPACT_STRINGS" "Z" (.int c0)) (hc0 : ¬ (c0 = (0 : Int32))) (hp : ¬ ((255 : Int32) < p)) :
    Own.Con l Z (⟨"java/lang/String", "<init>", "([C)V"⟩ : MethodName) jdk_42_method_3_code 2 none ({ frames := 3, cells := 1, slots := 1, locals := 72 } : Room) #[(.ref a), (.ref ch)] h (fun rr h' => ∃ (b : Addr) (kb : ClassId), rr = none ∧ Own.HS Z h' ((a, o_Str (.ref b) (.int (0 : Int32)) (.int (0 : Int32)) (.int (0 : Int32))) :: (b, .inr (.byte, kb, [(.int (Own.by8 p))])) :: cs)) := by
  refine Own.Con.of (plainFor_of_name (by first | (simp [plainName, overriddenIn]; done) | decide +kernel)) #[.val (.ref a), .val (.ref ch)] (fun m => by first | rfl | (simp [entryFrame, mkF, argsToLocals, Value.category, maxLocals]; done)) (fun K ok => ?_)
  refine Own.W.aloadN ok d_jdk_42_method_3_0 1 rfl rfl ?_
  refine Own.W.aloadN ok d_jdk_42_method_3_1 2 rfl rfl ?_
  refine Own.W.iconst ok d_jdk_42_method_3_2 3 (0 : Int32) rfl ?_
  refine Own.W.aloadN ok d_jdk_42_method_3_3 4 rfl rfl ?_
  refine Own.W.alen ok H (i := 1) rfl d_jdk_42_method_3_4 5 (1 : Int32) rfl ?_
  refine Own.W.aconstNull ok d_jdk_42_method_3_5 6 ?_
  have H1 : Own.HS Z h ((ch, .inr (.char, kc, [(.int p)])) :: (a, o_Str .null (.int (0 : Int32)) (.int (0 : Int32)) (.int (0 : Int32))) :: cs) := H.pull 1 _ rfl rfl
  have H2 : Own.HS Z h ((a, o_Str .null (.int (0 : Int32)) (.int (0 : Int32)) (.int (0 : Int32))) :: (ch, .inr (.char, kc, [(.int p)])) :: cs) := H1.pull 1 _ rfl rfl
  refine Own.W.callI ok tb (a := a) (argsL := [(.ref ch), (.int (0 : Int32)), (.int (1 : Int32)), .null]) (rest := []) 11 12 7 14 rfl rfl rfl rfl d_jdk_42_method_3_6 pd_15 (c_s4 l tb a ch kc c0 p h (cs) H2 SC hc0 hp) 0 1 1 9 ?_
  rintro _ h3 ⟨b5, kb6, rfl, H4⟩
  show Own.W l Z _ K _ h3 1 1 9 #[.val (.ref a), .val (.ref ch)] []
  exact Own.W.vret ok d_jdk_42_method_3_9 ⟨b5, kb6, rfl, H4⟩
set_option maxRecDepth 65536 in
set_option maxHeartbeats 4000000 in
theorem c_fresh (l : Launch) {Z : State} {a0 : Array Value} (tb : Own.Tb Z a0 tables_1) (c0 : Int32) (p : Int32) (h : Heap) (cs : List (Addr × Own.Pc)) (H : Own.HS Z h (cs)) (SC : Sta Z Z.heap "java/lang/String" "COMPACT_STRINGS" "Z" (.int c0)) (hc0 : ¬ (c0 = (0 : Int32))) (gp : Own.rng8 p) :
    Own.Con l Z (⟨"com/example/vestwright/vestwright/NamedValuesNamePinLaw", "fresh", "(C)Ljava/lang/String;"⟩ : MethodName) method_2_code 2 (some (.object "java/lang/String")) ({ frames := 4, cells := 3, slots := 6, locals := 92 } : Room) #[(.int p)] h (fun rr h' => ∃ (s : Addr) (b : Addr) (kb : ClassId), rr = some (.ref s) ∧ Own.HS Z h' ((s, o_Str (.ref b) (.int (0 : Int32)) (.int (0 : Int32)) (.int (0 : Int32))) :: (b, .inr (.byte, kb, [(.int (Own.by8 p))])) :: cs)) := by
  refine Own.Con.of (plainFor_of_name (by first | (simp [plainName, overriddenIn]; done) | decide +kernel)) #[.val (.int p), .unset] (fun m => by first | rfl | (simp [entryFrame, mkF, argsToLocals, Value.category, maxLocals]; done)) (fun K ok => ?_)
  refine Own.W.iconst ok d_method_2_0 1 (1 : Int32) rfl ?_
  refine Own.W.newP ok tb H 4 rfl d_method_2_1 1 [(.int (0 : Int32))] rfl 1 1 3 (by decide) (by decide) (fun a1 k2 h3 H4 => ?_)
  show Own.W l Z _ K _ h3 1 1 3 #[.val (.int p), .unset] [(.ref a1)]
  refine Own.W.astoreN ok d_method_2_3 4 #[.val (.int p), .val (.ref a1)] rfl rfl ?_
  refine Own.W.aloadN ok d_method_2_4 5 rfl rfl ?_
  refine Own.W.iconst ok d_method_2_5 6 (0 : Int32) rfl ?_
  refine Own.W.iloadN ok d_method_2_6 7 rfl ?_
  refine Own.W.cast ok H4 (i := 0) rfl (by decide) (Nat.le_of_ble_eq_true rfl) p (Own.nar_chr gp) d_method_2_7 8 ((a1, .inr (.char, k2, [(.int p)])) :: cs) rfl (fun h5 H6 => ?_)
  refine Own.W.new ok tb H6 5 6 7 rfl rfl rfl (nw_Str tb) d_method_2_8 2 5 11 (fun a7 h8 H9 => ?_)
  show Own.W l Z _ K _ h8 2 5 11 #[.val (.int p), .val (.ref a1)] [(.ref a7)]
  refine Own.W.dup ok d_method_2_11 12 rfl ?_
  refine Own.W.aloadN ok d_method_2_12 13 rfl rfl ?_
  have H10 : Own.HS Z h8 ((a1, .inr (.char, k2, [(.int p)])) :: (a7, o_Str .null (.int (0 : Int32)) (.int (0 : Int32)) (.int (0 : Int32))) :: cs) := H9.pull 1 _ rfl rfl
  have H11 : Own.HS Z h8 ((a7, o_Str .null (.int (0 : Int32)) (.int (0 : Int32)) (.int (0 : Int32))) :: (a1, .inr (.char, k2, [(.int p)])) :: cs) := H10.pull 1 _ rfl rfl
  refine Own.W.callI ok tb (a := a7) (argsL := [(.ref a1)]) (rest := [(.ref a7)]) 8 9 7 10 rfl rfl rfl rfl d_method_2_13 pd_16 (c_s1c l tb a7 a1 k2 c0 p h8 (cs) H11 SC hc0 gp.le) 1 3 6 16 ?_
  rintro _ h12 ⟨b14, kb15, rfl, H13⟩
  show Own.W l Z _ K _ h12 3 6 16 #[.val (.int p), .val (.ref a1)] [(.ref a7)]
  exact Own.W.aret ok d_method_2_16 ⟨a7, b14, kb15, rfl, H13⟩
set_option maxRecDepth 65536 in
set_option maxHeartbeats 4000000 in
theorem c_name (l : Launch) {Z : State} {a0 : Array Value} (tb : Own.Tb Z a0 tables_1) (t : Addr) (na : Addr) (va : Addr) (oa : Addr) (kn : ClassId) (kv : ClassId) (ko : ClassId) (n : Nat) (Kf : Nat → Int32) (Hf : Nat → Bool) (Vf : Nat → Value) (sf : Nat → Addr) (og : Nat → Nat) (es : List (Int32 × Value)) (z : Nat) (i : Nat) (j : Int32) (tl : List (Addr × Own.Pc)) (h : Heap) (cs : List (Addr × Own.Pc)) (H : Own.HS Z h ((t, o_NV (.ref na) (.ref va) (.ref oa) (.int (z.toInt32))) :: (na, .inr ((.object "java/lang/String"), kn, (Own.tN n Hf sf))) :: (va, .inr ((.object "java/lang/Object"), kv, (Own.tab n Vf))) :: (oa, .inr (.int, ko, (Own.tO n og))) :: cs)) (TT : Own.TS Z tl n Kf Hf Vf sf og es z kn kv) (hj : j = i.toInt32) (hi : i < z) :
    Own.Con l Z (⟨"com/example/vestwright/vestwright/NamedValues", "name", "(I)Ljava/lang/String;"⟩ : MethodName) prog_12_method_8_code 2 (some (.object "java/lang/String")) ({ frames := 0, cells := 0, slots := 0, locals := 0 } : Room) #[(.ref t), (.int j)] h (fun rr h' => rr = some (.ref (sf (og i))) ∧ h = h') := by
  refine Own.Con.of (plainFor_of_name (by first | (simp [plainName, overriddenIn]; done) | decide +kernel)) #[.val (.ref t), .val (.int j)] (fun m => by first | rfl | (simp [entryFrame, mkF, argsToLocals, Value.category, maxLocals]; done)) (fun K ok => ?_)
  refine Own.W.aloadN ok d_prog_12_method_8_0 1 rfl rfl ?_
  refine Own.W.getF ok tb 61 rfl Via.refl (H.fld (i := 0) (j := 0) rfl rfl) d_prog_12_method_8_1 4 ?_
  refine Own.W.aloadN ok d_prog_12_method_8_4 5 rfl rfl ?_
  refine Own.W.getF ok tb 68 rfl Via.refl (H.fld (i := 0) (j := 2) rfl rfl) d_prog_12_method_8_5 8 ?_
  refine Own.W.iloadN ok d_prog_12_method_8_8 9 rfl ?_
  refine Own.W.iald ok H (i := 3) rfl (by rw [hj]; exact Own.nng TT.1.1 (by have := TT.2.2.1; omega)) (by rw [hj]; exact Own.getO TT.1.1 (by have := TT.2.2.1; omega)) d_prog_12_method_8_9 10 ?_
  refine Own.W.aald ok H (i := 1) rfl (Own.nng TT.1.1 (TT.1.2.2.2.1.1 i (by have := TT.2.1; omega)).1) (show _ = some (Value.ref (sf (og i))) from Own.getN TT.1.1 (TT.1.2.2.2.1.1 i (by have := TT.2.1; omega)).1 (TT.1.2.2.2.1.1 i (by have := TT.2.1; omega)).2.1) d_prog_12_method_8_10 11 ?_
  exact Own.W.aret ok d_prog_12_method_8_11 ⟨rfl, rfl⟩
set_option maxRecDepth 65536 in
set_option maxHeartbeats 4000000 in
theorem c_at (l : Launch) {Z : State} {a0 : Array Value} (tb : Own.Tb Z a0 tables_1) (t : Addr) (na : Addr) (va : Addr) (oa : Addr) (kn : ClassId) (kv : ClassId) (ko : ClassId) (n : Nat) (Kf : Nat → Int32) (Hf : Nat → Bool) (Vf : Nat → Value) (sf : Nat → Addr) (og : Nat → Nat) (es : List (Int32 × Value)) (z : Nat) (xa : Addr) (kx : ClassId) (X : List Value) (i : Nat) (j : Int32) (c0 : Int32) (tl : List (Addr × Own.Pc)) (h : Heap) (cs : List (Addr × Own.Pc)) (H : Own.HS Z h ((t, o_NV (.ref na) (.ref va) (.ref oa) (.int (z.toInt32))) :: (na, .inr ((.object "java/lang/String"), kn, (Own.tN n Hf sf))) :: (va, .inr ((.object "java/lang/Object"), kv, (Own.tab n Vf))) :: (oa, .inr (.int, ko, (Own.tO n og))) :: (xa, .inr (.char, kx, X)) :: cs)) (hsub : ∀ q ∈ tl, q ∈ cs) (SC : Sta Z Z.heap "java/lang/String" "COMPACT_STRINGS" "Z" (.int c0)) (hc0 : ¬ (c0 = (0 : Int32))) (TT : Own.TS Z tl n Kf Hf Vf sf og es z kn kv) (hX : Own.XP X es) (hj : j = i.toInt32) (hi4 : i < 4) :
    Own.Con l Z (⟨"com/example/vestwright/vestwright/NamedValuesNamePinLaw", "at", "(Lcom/example/vestwright/vestwright/NamedValues;II[C)Z"⟩ : MethodName) method_3_code 5 (some .boolean) ({ frames := 4, cells := 2, slots := 5, locals := 84 } : Room) #[(.ref t), (.int j), (.int (z.toInt32)), (.ref xa)] h (fun rr h' => rr = some (.int (1 : Int32)) ∧ Own.HS Z h' ((t, o_NV (.ref na) (.ref va) (.ref oa) (.int (z.toInt32))) :: (na, .inr ((.object "java/lang/String"), kn, (Own.tN n Hf sf))) :: (va, .inr ((.object "java/lang/Object"), kv, (Own.tab n Vf))) :: (oa, .inr (.int, ko, (Own.tO n og))) :: (xa, .inr (.char, kx, X)) :: cs)) := by
  refine Own.Con.of (plainFor_of_name (by first | (simp [plainName, overriddenIn]; done) | decide +kernel)) #[.val (.ref t), .val (.int j), .val (.int (z.toInt32)), .val (.ref xa), .unset] (fun m => by first | rfl | (simp [entryFrame, mkF, argsToLocals, Value.category, maxLocals]; done)) (fun K ok => ?_)
  refine Own.W.iloadN ok d_method_3_0 1 rfl ?_
  refine Own.W.iloadN ok d_method_3_1 2 rfl ?_
  refine Own.W.icmp ok d_method_3_2 7 5 (fun (hc1 : j < (z.toInt32)) => ?_) (fun (hc1 : ¬ (j < (z.toInt32))) => ?_)
  · have hi : i < z := (Own.ltI (by omega) (by have := TT.2.2.1; rcases TT.1.1 with e | e | e <;> omega)).mp (hj ▸ hc1)
    have hr := (TT.1.2.2.2.1.1 i (by have := TT.2.1; omega))
    obtain ⟨cx, ex, ek⟩ : ∃ cx, X[i]? = some (.int cx) ∧ Kf (og i) = cx := ⟨_, hX.2 i (by have := TT.2.1; omega), hr.2.2.1⟩
    have hs0 := ek ▸ TT.2.2.2.2.1 (og i) hr.2.1
    refine Own.W.aloadN ok d_method_3_7 8 rfl rfl ?_
    refine Own.W.iloadN ok d_method_3_8 9 rfl ?_
    have H2 : Own.HS Z h ((oa, .inr (.int, ko, (Own.tO n og))) :: (t, o_NV (.ref na) (.ref va) (.ref oa) (.int (z.toInt32))) :: (na, .inr ((.object "java/lang/String"), kn, (Own.tN n Hf sf))) :: (va, .inr ((.object "java/lang/Object"), kv, (Own.tab n Vf))) :: (xa, .inr (.char, kx, X)) :: cs) := H.pull 3 _ rfl rfl
    have H3 : Own.HS Z h ((va, .inr ((.object "java/lang/Object"), kv, (Own.tab n Vf))) :: (oa, .inr (.int, ko, (Own.tO n og))) :: (t, o_NV (.ref na) (.ref va) (.ref oa) (.int (z.toInt32))) :: (na, .inr ((.object "java/lang/String"), kn, (Own.tN n Hf sf))) :: (xa, .inr (.char, kx, X)) :: cs) := H2.pull 3 _ rfl rfl
    have H4 : Own.HS Z h ((na, .inr ((.object "java/lang/String"), kn, (Own.tN n Hf sf))) :: (va, .inr ((.object "java/lang/Object"), kv, (Own.tab n Vf))) :: (oa, .inr (.int, ko, (Own.tO n og))) :: (t, o_NV (.ref na) (.ref va) (.ref oa) (.int (z.toInt32))) :: (xa, .inr (.char, kx, X)) :: cs) := H3.pull 3 _ rfl rfl
    have H5 : Own.HS Z h ((t, o_NV (.ref na) (.ref va) (.ref oa) (.int (z.toInt32))) :: (na, .inr ((.object "java/lang/String"), kn, (Own.tN n Hf sf))) :: (va, .inr ((.object "java/lang/Object"), kv, (Own.tab n Vf))) :: (oa, .inr (.int, ko, (Own.tO n og))) :: (xa, .inr (.char, kx, X)) :: cs) := H4.pull 3 _ rfl rfl
    refine Own.W.callV ok tb (a := t) (argsL := [(.int j)]) (rest := []) 119 120 122 121 123 36 rfl rfl rfl rfl rfl rfl (notFace_of_selects (args := #[]) (mvT ok.2.1 (tb _ (List.mem_of_getElem? (i := 122) rfl)))) (H5.exa (i := 0) rfl) d_method_3_9 pd_17 (c_name l tb t na va oa kn kv ko n Kf Hf Vf sf og es z i j tl h ((xa, .inr (.char, kx, X)) :: cs) H5 TT hj hi) 0 0 0 12 ?_
    rintro _ _ ⟨rfl, rfl⟩
    show Own.W l Z _ K _ h 0 0 12 #[.val (.ref t), .val (.int j), .val (.int (z.toInt32)), .val (.ref xa), .unset] [(.ref (sf (og i)))]
    refine Own.W.astore ok d_method_3_12 14 #[.val (.ref t), .val (.int j), .val (.int (z.toInt32)), .val (.ref xa), .val (.ref (sf (og i)))] rfl rfl ?_
    refine Own.W.aload ok d_method_3_14 16 rfl rfl ?_
    refine Own.W.ifnullF ok d_method_3_16 19 ?_
    refine Own.W.aload ok d_method_3_19 21 rfl rfl ?_
    refine Own.W.aloadN ok d_method_3_21 22 rfl rfl ?_
    refine Own.W.iloadN ok d_method_3_22 23 rfl ?_
    refine Own.W.cald ok H5 (i := 4) rfl (by rw [hj]; exact (Own.ix (by omega)).2) (by rw [hj, (Own.ix (by omega)).1]; exact ex) d_method_3_23 24 ?_
    refine Own.W.callS ok tb (argsL := [(.int cx)]) (rest := [(.ref (sf (og i)))]) 124 125 7 126 rfl rfl rfl rfl d_method_3_24 pd_18 (c_vo l tb c0 cx h ((t, o_NV (.ref na) (.ref va) (.ref oa) (.int (z.toInt32))) :: (na, .inr ((.object "java/lang/String"), kn, (Own.tN n Hf sf))) :: (va, .inr ((.object "java/lang/Object"), kv, (Own.tab n Vf))) :: (oa, .inr (.int, ko, (Own.tO n og))) :: (xa, .inr (.char, kx, X)) :: cs) H5 SC hc0 hs0.1.le) 1 2 5 27 ?_
    rintro _ h6 ⟨s8, b9, kb10, rfl, H7⟩
    show Own.W l Z _ K _ h6 2 5 27 #[.val (.ref t), .val (.int j), .val (.int (z.toInt32)), .val (.ref xa), .val (.ref (sf (og i)))] [(.ref s8), (.ref (sf (og i)))]
    have hs1 := Own.SOK.sub hs0 (tl2 := ((s8, o_Str (.ref b9) (.int (0 : Int32)) (.int (0 : Int32)) (.int (0 : Int32))) :: (b9, .inr (.byte, kb10, [(.int (Own.by8 cx))])) :: (t, o_NV (.ref na) (.ref va) (.ref oa) (.int (z.toInt32))) :: (na, .inr ((.object "java/lang/String"), kn, (Own.tN n Hf sf))) :: (va, .inr ((.object "java/lang/Object"), kv, (Own.tab n Vf))) :: (oa, .inr (.int, ko, (Own.tO n og))) :: (xa, .inr (.char, kx, X)) :: cs)) (fun q m => List.mem_cons_of_mem _ ((fun q m => List.mem_cons_of_mem _ (List.mem_cons_of_mem _ (List.mem_cons_of_mem _ (List.mem_cons_of_mem _ (List.mem_cons_of_mem _ (List.mem_cons_of_mem _ (hsub q m))))))) q m))
    have hs3 : Own.SOK ((s8, o_Str (.ref b9) (.int (0 : Int32)) (.int (0 : Int32)) (.int (0 : Int32))) :: (b9, .inr (.byte, kb10, [(.int (Own.by8 cx))])) :: (t, o_NV (.ref na) (.ref va) (.ref oa) (.int (z.toInt32))) :: (na, .inr ((.object "java/lang/String"), kn, (Own.tN n Hf sf))) :: (va, .inr ((.object "java/lang/Object"), kv, (Own.tab n Vf))) :: (oa, .inr (.int, ko, (Own.tO n og))) :: (xa, .inr (.char, kx, X)) :: cs) s8 cx := Own.SOK.fresh hs0.1
    refine Own.W.callV ok tb (a := (sf (og i))) (argsL := [(.ref s8)]) (rest := []) 136 103 105 104 106 7 rfl rfl rfl rfl rfl rfl (notFace_of_selects (args := #[]) (mvT ok.2.1 (tb _ (List.mem_of_getElem? (i := 105) rfl)))) (Own.SOK.exa H7 (fun _ m => m) hs1) d_method_3_27 pd_7 (c_seq l tb (sf (og i)) s8 c0 cx cx ((s8, o_Str (.ref b9) (.int (0 : Int32)) (.int (0 : Int32)) (.int (0 : Int32))) :: (b9, .inr (.byte, kb10, [(.int (Own.by8 cx))])) :: (t, o_NV (.ref na) (.ref va) (.ref oa) (.int (z.toInt32))) :: (na, .inr ((.object "java/lang/String"), kn, (Own.tN n Hf sf))) :: (va, .inr ((.object "java/lang/Object"), kv, (Own.tab n Vf))) :: (oa, .inr (.int, ko, (Own.tO n og))) :: (xa, .inr (.char, kx, X)) :: cs) h6 ((s8, o_Str (.ref b9) (.int (0 : Int32)) (.int (0 : Int32)) (.int (0 : Int32))) :: (b9, .inr (.byte, kb10, [(.int (Own.by8 cx))])) :: (t, o_NV (.ref na) (.ref va) (.ref oa) (.int (z.toInt32))) :: (na, .inr ((.object "java/lang/String"), kn, (Own.tN n Hf sf))) :: (va, .inr ((.object "java/lang/Object"), kv, (Own.tab n Vf))) :: (oa, .inr (.int, ko, (Own.tO n og))) :: (xa, .inr (.char, kx, X)) :: cs) H7 (fun _ m => m) SC hc0 (Own.SOK.ne H7 (fun q m => List.mem_cons_of_mem _ (List.mem_cons_of_mem _ (List.mem_cons_of_mem _ (List.mem_cons_of_mem _ (List.mem_cons_of_mem _ (List.mem_cons_of_mem _ (hsub q m))))))) hs0) hs1 hs3) 0 2 5 30 ?_
    rintro _ _ ⟨rfl, rfl⟩
    show Own.W l Z _ K _ h6 2 5 30 #[.val (.ref t), .val (.int j), .val (.int (z.toInt32)), .val (.ref xa), .val (.ref (sf (og i)))] [(.int (if cx = cx then 1 else 0))]
    refine Own.W.ifF ok d_method_3_30 33 (by rw [if_pos rfl]; exact (by decide : ¬ ((1 : Int32) = 0))) ?_
    refine Own.W.iconst ok d_method_3_33 34 (1 : Int32) rfl ?_
    refine Own.W.goto ok d_method_3_34 38 ?_
    exact Own.W.iret ok d_method_3_38 rfl ⟨rfl, ((((((H7.pull 6 ((xa, .inr (.char, kx, X)) :: (s8, o_Str (.ref b9) (.int (0 : Int32)) (.int (0 : Int32)) (.int (0 : Int32))) :: (b9, .inr (.byte, kb10, [(.int (Own.by8 cx))])) :: (t, o_NV (.ref na) (.ref va) (.ref oa) (.int (z.toInt32))) :: (na, .inr ((.object "java/lang/String"), kn, (Own.tN n Hf sf))) :: (va, .inr ((.object "java/lang/Object"), kv, (Own.tab n Vf))) :: (oa, .inr (.int, ko, (Own.tO n og))) :: cs) rfl rfl).pull 6 ((oa, .inr (.int, ko, (Own.tO n og))) :: (xa, .inr (.char, kx, X)) :: (s8, o_Str (.ref b9) (.int (0 : Int32)) (.int (0 : Int32)) (.int (0 : Int32))) :: (b9, .inr (.byte, kb10, [(.int (Own.by8 cx))])) :: (t, o_NV (.ref na) (.ref va) (.ref oa) (.int (z.toInt32))) :: (na, .inr ((.object "java/lang/String"), kn, (Own.tN n Hf sf))) :: (va, .inr ((.object "java/lang/Object"), kv, (Own.tab n Vf))) :: cs) rfl rfl).pull 6 ((va, .inr ((.object "java/lang/Object"), kv, (Own.tab n Vf))) :: (oa, .inr (.int, ko, (Own.tO n og))) :: (xa, .inr (.char, kx, X)) :: (s8, o_Str (.ref b9) (.int (0 : Int32)) (.int (0 : Int32)) (.int (0 : Int32))) :: (b9, .inr (.byte, kb10, [(.int (Own.by8 cx))])) :: (t, o_NV (.ref na) (.ref va) (.ref oa) (.int (z.toInt32))) :: (na, .inr ((.object "java/lang/String"), kn, (Own.tN n Hf sf))) :: cs) rfl rfl).pull 6 ((na, .inr ((.object "java/lang/String"), kn, (Own.tN n Hf sf))) :: (va, .inr ((.object "java/lang/Object"), kv, (Own.tab n Vf))) :: (oa, .inr (.int, ko, (Own.tO n og))) :: (xa, .inr (.char, kx, X)) :: (s8, o_Str (.ref b9) (.int (0 : Int32)) (.int (0 : Int32)) (.int (0 : Int32))) :: (b9, .inr (.byte, kb10, [(.int (Own.by8 cx))])) :: (t, o_NV (.ref na) (.ref va) (.ref oa) (.int (z.toInt32))) :: cs) rfl rfl).pull 6 ((t, o_NV (.ref na) (.ref va) (.ref oa) (.int (z.toInt32))) :: (na, .inr ((.object "java/lang/String"), kn, (Own.tN n Hf sf))) :: (va, .inr ((.object "java/lang/Object"), kv, (Own.tab n Vf))) :: (oa, .inr (.int, ko, (Own.tO n og))) :: (xa, .inr (.char, kx, X)) :: (s8, o_Str (.ref b9) (.int (0 : Int32)) (.int (0 : Int32)) (.int (0 : Int32))) :: (b9, .inr (.byte, kb10, [(.int (Own.by8 cx))])) :: cs) rfl rfl).drop (List.Sublist.cons_cons _ (List.Sublist.cons_cons _ (List.Sublist.cons_cons _ (List.Sublist.cons_cons _ (List.Sublist.cons_cons _ (List.Sublist.cons _ (List.Sublist.cons _ (List.Sublist.refl _)))))))))⟩
  · refine Own.W.iconst ok d_method_3_5 6 (1 : Int32) rfl ?_
    exact Own.W.iret ok d_method_3_6 rfl ⟨rfl, H⟩
set_option maxRecDepth 65536 in
set_option maxHeartbeats 4000000 in
theorem c_law (l : Launch) {Z : State} {a0 : Array Value} (tb : Own.Tb Z a0 tables_1) (u0 : Int32) (u1 : Int32) (u2 : Int32) (c0 : Int32) (ca : Addr) (ccl : Cell) (h : Heap) (cs : List (Addr × Own.Pc)) (H : Own.HS Z h (cs)) (SC : Sta Z Z.heap "java/lang/String" "COMPACT_STRINGS" "Z" (.int c0)) (hc0 : ¬ (c0 = (0 : Int32))) (SH : Sta Z Z.heap "java/lang/Integer$IntegerCache" "high" "I" (.int (127 : Int32))) (SCA : Sta Z Z.heap "java/lang/Integer$IntegerCache" "cache" "[Ljava/lang/Integer;" (.ref ca)) (BX : Own.BX Z ca ccl) :
    Own.Con l Z x code maxLocals ret room_1 #[(.int u0), (.int u1), (.int u2)] h (fun rr h' => rr = some (.int (1 : Int32)) ∧ True) := by
  refine Own.Con.of (plainFor_of_name (by first | (simp [plainName, overriddenIn]; done) | decide +kernel)) #[.val (.int u0), .val (.int u1), .val (.int u2), .unset, .unset, .unset, .unset, .unset, .unset, .unset, .unset, .unset, .unset, .unset, .unset, .unset] (fun m => by first | rfl | (simp [entryFrame, mkF, argsToLocals, Value.category, maxLocals]; done)) (fun K ok => ?_)
  refine Own.W.iloadN ok at_0 1 rfl ?_
  refine Own.W.iconst ok at_1 2 (1 : Int32) rfl ?_
  refine Own.W.iand ok at_2 3 ?_
  have J1 : ∀ (mm : Int32) (hmm : mm = 3 ∨ mm = 255), Own.W l Z room_1 K (fun rr h' => rr = some (.int (1 : Int32)) ∧ True) h 0 0 13 #[.val (.int u0), .val (.int u1), .val (.int u2), .unset, .unset, .unset, .unset, .unset, .unset, .unset, .unset, .unset, .unset, .unset, .unset, .unset] [(.int mm)] := by
    intro mm hmm
    refine Own.W.istoreN ok at_13 14 #[.val (.int u0), .val (.int u1), .val (.int u2), .val (.int mm), .unset, .unset, .unset, .unset, .unset, .unset, .unset, .unset, .unset, .unset, .unset, .unset] rfl ?_
    refine Own.W.iloadN ok at_14 15 rfl ?_
    refine Own.W.iloadN ok at_15 16 rfl ?_
    refine Own.W.iand ok at_16 17 ?_
    obtain ⟨k0, qk0, gk0⟩ : ∃ y, y = ((u0 &&& mm).toUInt32.toUInt16.toUInt32.toInt32) ∧ Own.rng8 y := ⟨_, rfl, Own.i2c8m hmm _⟩
    refine Own.W.i2cV ok at_17 18 k0 qk0.symm ?_
    refine Own.W.istore ok at_18 20 #[.val (.int u0), .val (.int u1), .val (.int u2), .val (.int mm), .val (.int k0), .unset, .unset, .unset, .unset, .unset, .unset, .unset, .unset, .unset, .unset, .unset] rfl ?_
    refine Own.W.iloadN ok at_20 21 rfl ?_
    refine Own.W.bipush ok at_21 23 (8 : Int32) rfl ?_
    refine Own.W.iushr ok at_23 24 ?_
    refine Own.W.iloadN ok at_24 25 rfl ?_
    refine Own.W.iand ok at_25 26 ?_
    obtain ⟨k1, qk1, gk1⟩ : ∃ y, y = ((((u0.toUInt32 >>> ((8 : Int32) &&& 31).toUInt32).toInt32) &&& mm).toUInt32.toUInt16.toUInt32.toInt32) ∧ Own.rng8 y := ⟨_, rfl, Own.i2c8m hmm _⟩
    refine Own.W.i2cV ok at_26 27 k1 qk1.symm ?_
    refine Own.W.istore ok at_27 29 #[.val (.int u0), .val (.int u1), .val (.int u2), .val (.int mm), .val (.int k0), .val (.int k1), .unset, .unset, .unset, .unset, .unset, .unset, .unset, .unset, .unset, .unset] rfl ?_
    refine Own.W.iloadN ok at_29 30 rfl ?_
    refine Own.W.bipush ok at_30 32 (16 : Int32) rfl ?_
    refine Own.W.iushr ok at_32 33 ?_
    refine Own.W.iloadN ok at_33 34 rfl ?_
    refine Own.W.iand ok at_34 35 ?_
    obtain ⟨k2, qk2, gk2⟩ : ∃ y, y = ((((u0.toUInt32 >>> ((16 : Int32) &&& 31).toUInt32).toInt32) &&& mm).toUInt32.toUInt16.toUInt32.toInt32) ∧ Own.rng8 y := ⟨_, rfl, Own.i2c8m hmm _⟩
    refine Own.W.i2cV ok at_35 36 k2 qk2.symm ?_
    refine Own.W.istore ok at_36 38 #[.val (.int u0), .val (.int u1), .val (.int u2), .val (.int mm), .val (.int k0), .val (.int k1), .val (.int k2), .unset, .unset, .unset, .unset, .unset, .unset, .unset, .unset, .unset] rfl ?_
    refine Own.W.iloadN ok at_38 39 rfl ?_
    refine Own.W.bipush ok at_39 41 (24 : Int32) rfl ?_
    refine Own.W.iushr ok at_41 42 ?_
    refine Own.W.iloadN ok at_42 43 rfl ?_
    refine Own.W.iand ok at_43 44 ?_
    obtain ⟨k3, qk3, gk3⟩ : ∃ y, y = ((((u0.toUInt32 >>> ((24 : Int32) &&& 31).toUInt32).toInt32) &&& mm).toUInt32.toUInt16.toUInt32.toInt32) ∧ Own.rng8 y := ⟨_, rfl, Own.i2c8m hmm _⟩
    refine Own.W.i2cV ok at_44 45 k3 qk3.symm ?_
    refine Own.W.istore ok at_45 47 #[.val (.int u0), .val (.int u1), .val (.int u2), .val (.int mm), .val (.int k0), .val (.int k1), .val (.int k2), .val (.int k3), .unset, .unset, .unset, .unset, .unset, .unset, .unset, .unset] rfl ?_
    refine Own.W.iload ok at_47 49 rfl ?_
    refine Own.W.callS ok tb (argsL := [(.int k0)]) (rest := []) 0 1 2 3 rfl rfl rfl rfl at_49 pd_18 (c_fresh l tb c0 k0 h (cs) H SC hc0 gk0) 0 3 6 52 ?_
    rintro _ h2 ⟨s4, b5, kb6, rfl, H3⟩
    show Own.W l Z _ K _ h2 3 6 52 #[.val (.int u0), .val (.int u1), .val (.int u2), .val (.int mm), .val (.int k0), .val (.int k1), .val (.int k2), .val (.int k3), .unset, .unset, .unset, .unset, .unset, .unset, .unset, .unset] [(.ref s4)]
    obtain ⟨tl7, et8⟩ : ∃ y, y = (s4, o_Str (.ref b5) (.int (0 : Int32)) (.int (0 : Int32)) (.int (0 : Int32))) :: (b5, .inr (.byte, kb6, [(.int (Own.by8 k0))])) :: cs := ⟨_, rfl⟩
    have H11 : Own.HS Z h2 tl7 := by rw [et8]; exact H3
    have mo9 : Own.Mono Z cs tl7 := by rw [et8]; exact Own.Mono.cons2
    have so10 : Own.SOK tl7 s4 k0 := by rw [et8]; exact Own.SOK.fresh gk0
    refine Own.W.astore ok at_52 54 #[.val (.int u0), .val (.int u1), .val (.int u2), .val (.int mm), .val (.int k0), .val (.int k1), .val (.int k2), .val (.int k3), .val (.ref s4), .unset, .unset, .unset, .unset, .unset, .unset, .unset] rfl rfl ?_
    refine Own.W.iload ok at_54 56 rfl ?_
    refine Own.W.callS ok tb (argsL := [(.int k1)]) (rest := []) 0 1 2 3 rfl rfl rfl rfl at_56 pd_18 (c_fresh l tb c0 k1 h2 (tl7) H11 SC hc0 gk1) 0 6 12 59 ?_
    rintro _ h12 ⟨s14, b15, kb16, rfl, H13⟩
    show Own.W l Z _ K _ h12 6 12 59 #[.val (.int u0), .val (.int u1), .val (.int u2), .val (.int mm), .val (.int k0), .val (.int k1), .val (.int k2), .val (.int k3), .val (.ref s4), .unset, .unset, .unset, .unset, .unset, .unset, .unset] [(.ref s14)]
    obtain ⟨tl17, et18⟩ : ∃ y, y = (s14, o_Str (.ref b15) (.int (0 : Int32)) (.int (0 : Int32)) (.int (0 : Int32))) :: (b15, .inr (.byte, kb16, [(.int (Own.by8 k1))])) :: tl7 := ⟨_, rfl⟩
    have H21 : Own.HS Z h12 tl17 := by rw [et18]; exact H13
    have mo19 : Own.Mono Z tl7 tl17 := by rw [et18]; exact Own.Mono.cons2
    have so20 : Own.SOK tl17 s14 k1 := by rw [et18]; exact Own.SOK.fresh gk1
    have so22 := mo19.1 _ _ so10
    refine Own.W.astore ok at_59 61 #[.val (.int u0), .val (.int u1), .val (.int u2), .val (.int mm), .val (.int k0), .val (.int k1), .val (.int k2), .val (.int k3), .val (.ref s4), .val (.ref s14), .unset, .unset, .unset, .unset, .unset, .unset] rfl rfl ?_
    refine Own.W.iload ok at_61 63 rfl ?_
    refine Own.W.callS ok tb (argsL := [(.int k2)]) (rest := []) 0 1 2 3 rfl rfl rfl rfl at_63 pd_18 (c_fresh l tb c0 k2 h12 (tl17) H21 SC hc0 gk2) 0 9 18 66 ?_
    rintro _ h23 ⟨s25, b26, kb27, rfl, H24⟩
    show Own.W l Z _ K _ h23 9 18 66 #[.val (.int u0), .val (.int u1), .val (.int u2), .val (.int mm), .val (.int k0), .val (.int k1), .val (.int k2), .val (.int k3), .val (.ref s4), .val (.ref s14), .unset, .unset, .unset, .unset, .unset, .unset] [(.ref s25)]
    obtain ⟨tl28, et29⟩ : ∃ y, y = (s25, o_Str (.ref b26) (.int (0 : Int32)) (.int (0 : Int32)) (.int (0 : Int32))) :: (b26, .inr (.byte, kb27, [(.int (Own.by8 k2))])) :: tl17 := ⟨_, rfl⟩
    have H32 : Own.HS Z h23 tl28 := by rw [et29]; exact H24
    have mo30 : Own.Mono Z tl17 tl28 := by rw [et29]; exact Own.Mono.cons2
    have so31 : Own.SOK tl28 s25 k2 := by rw [et29]; exact Own.SOK.fresh gk2
    have so33 := mo30.1 _ _ so22
    have so34 := mo30.1 _ _ so20
    refine Own.W.astore ok at_66 68 #[.val (.int u0), .val (.int u1), .val (.int u2), .val (.int mm), .val (.int k0), .val (.int k1), .val (.int k2), .val (.int k3), .val (.ref s4), .val (.ref s14), .val (.ref s25), .unset, .unset, .unset, .unset, .unset] rfl rfl ?_
    refine Own.W.iload ok at_68 70 rfl ?_
    refine Own.W.callS ok tb (argsL := [(.int k3)]) (rest := []) 0 1 2 3 rfl rfl rfl rfl at_70 pd_18 (c_fresh l tb c0 k3 h23 (tl28) H32 SC hc0 gk3) 0 12 24 73 ?_
    rintro _ h35 ⟨s37, b38, kb39, rfl, H36⟩
    show Own.W l Z _ K _ h35 12 24 73 #[.val (.int u0), .val (.int u1), .val (.int u2), .val (.int mm), .val (.int k0), .val (.int k1), .val (.int k2), .val (.int k3), .val (.ref s4), .val (.ref s14), .val (.ref s25), .unset, .unset, .unset, .unset, .unset] [(.ref s37)]
    obtain ⟨tl40, et41⟩ : ∃ y, y = (s37, o_Str (.ref b38) (.int (0 : Int32)) (.int (0 : Int32)) (.int (0 : Int32))) :: (b38, .inr (.byte, kb39, [(.int (Own.by8 k3))])) :: tl28 := ⟨_, rfl⟩
    have H44 : Own.HS Z h35 tl40 := by rw [et41]; exact H36
    have mo42 : Own.Mono Z tl28 tl40 := by rw [et41]; exact Own.Mono.cons2
    have so43 : Own.SOK tl40 s37 k3 := by rw [et41]; exact Own.SOK.fresh gk3
    have so45 := mo42.1 _ _ so33
    have so46 := mo42.1 _ _ so34
    have so47 := mo42.1 _ _ so31
    refine Own.W.astore ok at_73 75 #[.val (.int u0), .val (.int u1), .val (.int u2), .val (.int mm), .val (.int k0), .val (.int k1), .val (.int k2), .val (.int k3), .val (.ref s4), .val (.ref s14), .val (.ref s25), .val (.ref s37), .unset, .unset, .unset, .unset] rfl rfl ?_
    refine Own.W.new ok tb H44 34 35 36 rfl rfl rfl (nw_NV tb) at_75 13 30 78 (fun a48 h49 H50 => ?_)
    show Own.W l Z _ K _ h49 13 30 78 #[.val (.int u0), .val (.int u1), .val (.int u2), .val (.int mm), .val (.int k0), .val (.int k1), .val (.int k2), .val (.int k3), .val (.ref s4), .val (.ref s14), .val (.ref s25), .val (.ref s37), .unset, .unset, .unset, .unset] [(.ref a48)]
    refine Own.W.dup ok at_78 79 rfl ?_
    refine Own.W.iloadN ok at_79 80 rfl ?_
    refine Own.W.bipush ok at_80 82 (7 : Int32) rfl ?_
    refine Own.W.iand ok at_82 83 ?_
    refine Own.W.callI ok tb (a := a48) (argsL := [(.int (u1 &&& (7 : Int32)))]) (rest := [(.ref a48)]) 37 38 36 39 rfl rfl rfl rfl at_83 pd_19 (c_nini l tb a48 (u1 &&& (7 : Int32)) tl40 h49 (tl40) H50 (Own.and7 u1)) 1 16 70 86 ?_
    rintro _ h51 ⟨na53, va54, oa55, kn56, kv57, ko58, n59, K60, H61, V62, s63, o64, z65, rfl, H52, hq66⟩
    show Own.W l Z _ K _ h51 16 70 86 #[.val (.int u0), .val (.int u1), .val (.int u2), .val (.int mm), .val (.int k0), .val (.int k1), .val (.int k2), .val (.int k3), .val (.ref s4), .val (.ref s14), .val (.ref s25), .val (.ref s37), .unset, .unset, .unset, .unset] [(.ref a48)]
    have hz67 : z65 = 0 := hq66.2.1.symm
    refine Own.W.astore ok at_86 88 #[.val (.int u0), .val (.int u1), .val (.int u2), .val (.int mm), .val (.int k0), .val (.int k1), .val (.int k2), .val (.int k3), .val (.ref s4), .val (.ref s14), .val (.ref s25), .val (.ref s37), .val (.ref a48), .unset, .unset, .unset] rfl rfl ?_
    refine Own.W.aload ok at_88 90 rfl rfl ?_
    refine Own.W.aload ok at_90 92 rfl rfl ?_
    refine Own.W.iconst ok at_92 93 (0 : Int32) rfl ?_
    refine Own.W.callS ok tb (argsL := [(.int (0 : Int32))]) (rest := [(.ref s4), (.ref a48)]) 70 71 52 72 rfl rfl rfl rfl at_93 pd_20 (c_ival l tb (0 : Int32) ca ccl ((a48, o_NV (.ref na53) (.ref va54) (.ref oa55) (.int (z65.toInt32))) :: (na53, .inr ((.object "java/lang/String"), kn56, (Own.tN n59 H61 s63))) :: (va54, .inr ((.object "java/lang/Object"), kv57, (Own.tab n59 V62))) :: (oa55, .inr (.int, ko58, (Own.tO n59 o64))) :: []) tl40 h51 ((a48, o_NV (.ref na53) (.ref va54) (.ref oa55) (.int (z65.toInt32))) :: (na53, .inr ((.object "java/lang/String"), kn56, (Own.tN n59 H61 s63))) :: (va54, .inr ((.object "java/lang/Object"), kv57, (Own.tab n59 V62))) :: (oa55, .inr (.int, ko58, (Own.tO n59 o64))) :: tl40) H52 rfl SH SCA BX (by decide) (by decide)) 2 17 71 96 ?_
    rintro _ h68 ⟨u70, tl71, rfl, H69, hq72, hq73⟩
    show Own.W l Z _ K _ h68 17 71 96 #[.val (.int u0), .val (.int u1), .val (.int u2), .val (.int mm), .val (.int k0), .val (.int k1), .val (.int k2), .val (.int k3), .val (.ref s4), .val (.ref s14), .val (.ref s25), .val (.ref s37), .val (.ref a48), .unset, .unset, .unset] [u70, (.ref s4), (.ref a48)]
    have H74 : Own.HS Z h68 ((a48, o_NV (.ref na53) (.ref va54) (.ref oa55) (.int (z65.toInt32))) :: (na53, .inr ((.object "java/lang/String"), kn56, (Own.tN n59 H61 s63))) :: (va54, .inr ((.object "java/lang/Object"), kv57, (Own.tab n59 V62))) :: (oa55, .inr (.int, ko58, (Own.tO n59 o64))) :: tl71) := H69
    have so75 := hq73.1 _ _ so45
    have so76 := hq73.1 _ _ so46
    have so77 := hq73.1 _ _ so47
    have so78 := hq73.1 _ _ so43
    have TS79 := Own.TS.mono hq66 hq73
    have H80 : Own.HS Z h68 ((oa55, .inr (.int, ko58, (Own.tO n59 o64))) :: (a48, o_NV (.ref na53) (.ref va54) (.ref oa55) (.int (z65.toInt32))) :: (na53, .inr ((.object "java/lang/String"), kn56, (Own.tN n59 H61 s63))) :: (va54, .inr ((.object "java/lang/Object"), kv57, (Own.tab n59 V62))) :: tl71) := H74.pull 3 _ rfl rfl
    have H81 : Own.HS Z h68 ((va54, .inr ((.object "java/lang/Object"), kv57, (Own.tab n59 V62))) :: (oa55, .inr (.int, ko58, (Own.tO n59 o64))) :: (a48, o_NV (.ref na53) (.ref va54) (.ref oa55) (.int (z65.toInt32))) :: (na53, .inr ((.object "java/lang/String"), kn56, (Own.tN n59 H61 s63))) :: tl71) := H80.pull 3 _ rfl rfl
    have H82 : Own.HS Z h68 ((na53, .inr ((.object "java/lang/String"), kn56, (Own.tN n59 H61 s63))) :: (va54, .inr ((.object "java/lang/Object"), kv57, (Own.tab n59 V62))) :: (oa55, .inr (.int, ko58, (Own.tO n59 o64))) :: (a48, o_NV (.ref na53) (.ref va54) (.ref oa55) (.int (z65.toInt32))) :: tl71) := H81.pull 3 _ rfl rfl
    have H83 : Own.HS Z h68 ((a48, o_NV (.ref na53) (.ref va54) (.ref oa55) (.int (z65.toInt32))) :: (na53, .inr ((.object "java/lang/String"), kn56, (Own.tN n59 H61 s63))) :: (va54, .inr ((.object "java/lang/Object"), kv57, (Own.tab n59 V62))) :: (oa55, .inr (.int, ko58, (Own.tO n59 o64))) :: tl71) := H82.pull 3 _ rfl rfl
    refine Own.W.callV ok tb (a := a48) (argsL := [(.ref s4), u70]) (rest := []) 76 77 79 78 80 36 rfl rfl rfl rfl rfl rfl (notFace_of_selects (args := #[]) (mvT ok.2.1 (tb _ (List.mem_of_getElem? (i := 79) rfl)))) (H83.exa (i := 0) rfl) at_96 pd_8 (c_putB l tb a48 na53 va54 oa55 kn56 kv57 ko58 n59 K60 H61 V62 s63 o64 [] z65 s4 k0 c0 u70 [] tl71 h68 (tl71) H83 rfl SC hc0 TS79 (by have := TS79.1.1; have := TS79.2.2.1; have := hz67; omega) so75 (Or.inr ⟨_, hq72⟩)) 0 20 111 99 ?_
    rintro _ h84 ⟨u86, na87, va88, oa89, kn90, kv91, ko92, n93, K94, H95, V96, s97, o98, z99, tl100, rfl, H85, hq101, hq102, hq103, hq104⟩
    show Own.W l Z _ K _ h84 20 111 99 #[.val (.int u0), .val (.int u1), .val (.int u2), .val (.int mm), .val (.int k0), .val (.int k1), .val (.int k2), .val (.int k3), .val (.ref s4), .val (.ref s14), .val (.ref s25), .val (.ref s37), .val (.ref a48), .unset, .unset, .unset] [u86]
    have H105 : Own.HS Z h84 ((a48, o_NV (.ref na87) (.ref va88) (.ref oa89) (.int (z99.toInt32))) :: (na87, .inr ((.object "java/lang/String"), kn90, (Own.tN n93 H95 s97))) :: (va88, .inr ((.object "java/lang/Object"), kv91, (Own.tab n93 V96))) :: (oa89, .inr (.int, ko92, (Own.tO n93 o98))) :: tl100) := H85
    have so106 := hq103.1 _ _ so75
    have so107 := hq103.1 _ _ so76
    have so108 := hq103.1 _ _ so77
    have so109 := hq103.1 _ _ so78
    refine Own.W.pop ok at_99 100 (Own.cat_of hq101) ?_
    refine Own.W.aload ok at_100 102 rfl rfl ?_
    refine Own.W.aload ok at_102 104 rfl rfl ?_
    refine Own.W.iconst ok at_104 105 (1 : Int32) rfl ?_
    refine Own.W.callS ok tb (argsL := [(.int (1 : Int32))]) (rest := [(.ref s14), (.ref a48)]) 70 71 52 72 rfl rfl rfl rfl at_105 pd_20 (c_ival l tb (1 : Int32) ca ccl ((a48, o_NV (.ref na87) (.ref va88) (.ref oa89) (.int (z99.toInt32))) :: (na87, .inr ((.object "java/lang/String"), kn90, (Own.tN n93 H95 s97))) :: (va88, .inr ((.object "java/lang/Object"), kv91, (Own.tab n93 V96))) :: (oa89, .inr (.int, ko92, (Own.tO n93 o98))) :: []) tl100 h84 ((a48, o_NV (.ref na87) (.ref va88) (.ref oa89) (.int (z99.toInt32))) :: (na87, .inr ((.object "java/lang/String"), kn90, (Own.tN n93 H95 s97))) :: (va88, .inr ((.object "java/lang/Object"), kv91, (Own.tab n93 V96))) :: (oa89, .inr (.int, ko92, (Own.tO n93 o98))) :: tl100) H105 rfl SH SCA BX (by decide) (by decide)) 2 21 112 108 ?_
    rintro _ h110 ⟨u112, tl113, rfl, H111, hq114, hq115⟩
    show Own.W l Z _ K _ h110 21 112 108 #[.val (.int u0), .val (.int u1), .val (.int u2), .val (.int mm), .val (.int k0), .val (.int k1), .val (.int k2), .val (.int k3), .val (.ref s4), .val (.ref s14), .val (.ref s25), .val (.ref s37), .val (.ref a48), .unset, .unset, .unset] [u112, (.ref s14), (.ref a48)]
    have H116 : Own.HS Z h110 ((a48, o_NV (.ref na87) (.ref va88) (.ref oa89) (.int (z99.toInt32))) :: (na87, .inr ((.object "java/lang/String"), kn90, (Own.tN n93 H95 s97))) :: (va88, .inr ((.object "java/lang/Object"), kv91, (Own.tab n93 V96))) :: (oa89, .inr (.int, ko92, (Own.tO n93 o98))) :: tl113) := H111
    have so117 := hq115.1 _ _ so106
    have so118 := hq115.1 _ _ so107
    have so119 := hq115.1 _ _ so108
    have so120 := hq115.1 _ _ so109
    have TS121 := Own.TS.mono hq102 hq115
    have H122 : Own.HS Z h110 ((oa89, .inr (.int, ko92, (Own.tO n93 o98))) :: (a48, o_NV (.ref na87) (.ref va88) (.ref oa89) (.int (z99.toInt32))) :: (na87, .inr ((.object "java/lang/String"), kn90, (Own.tN n93 H95 s97))) :: (va88, .inr ((.object "java/lang/Object"), kv91, (Own.tab n93 V96))) :: tl113) := H116.pull 3 _ rfl rfl
    have H123 : Own.HS Z h110 ((va88, .inr ((.object "java/lang/Object"), kv91, (Own.tab n93 V96))) :: (oa89, .inr (.int, ko92, (Own.tO n93 o98))) :: (a48, o_NV (.ref na87) (.ref va88) (.ref oa89) (.int (z99.toInt32))) :: (na87, .inr ((.object "java/lang/String"), kn90, (Own.tN n93 H95 s97))) :: tl113) := H122.pull 3 _ rfl rfl
    have H124 : Own.HS Z h110 ((na87, .inr ((.object "java/lang/String"), kn90, (Own.tN n93 H95 s97))) :: (va88, .inr ((.object "java/lang/Object"), kv91, (Own.tab n93 V96))) :: (oa89, .inr (.int, ko92, (Own.tO n93 o98))) :: (a48, o_NV (.ref na87) (.ref va88) (.ref oa89) (.int (z99.toInt32))) :: tl113) := H123.pull 3 _ rfl rfl
    have H125 : Own.HS Z h110 ((a48, o_NV (.ref na87) (.ref va88) (.ref oa89) (.int (z99.toInt32))) :: (na87, .inr ((.object "java/lang/String"), kn90, (Own.tN n93 H95 s97))) :: (va88, .inr ((.object "java/lang/Object"), kv91, (Own.tab n93 V96))) :: (oa89, .inr (.int, ko92, (Own.tO n93 o98))) :: tl113) := H124.pull 3 _ rfl rfl
    refine Own.W.callV ok tb (a := a48) (argsL := [(.ref s14), u112]) (rest := []) 76 77 79 78 80 36 rfl rfl rfl rfl rfl rfl (notFace_of_selects (args := #[]) (mvT ok.2.1 (tb _ (List.mem_of_getElem? (i := 79) rfl)))) (H125.exa (i := 0) rfl) at_108 pd_8 (c_putB l tb a48 na87 va88 oa89 kn90 kv91 ko92 n93 K94 H95 V96 s97 o98 (Own.updL [] k0 u70) z99 s14 k1 c0 u112 [] tl113 h110 (tl113) H125 rfl SC hc0 TS121 (by have := TS121.1.1; have := TS121.2.2.1; have := hz67; have := hq104; omega) so118 (Or.inr ⟨_, hq114⟩)) 0 24 152 111 ?_
    rintro _ h126 ⟨u128, na129, va130, oa131, kn132, kv133, ko134, n135, K136, H137, V138, s139, o140, z141, tl142, rfl, H127, hq143, hq144, hq145, hq146⟩
    show Own.W l Z _ K _ h126 24 152 111 #[.val (.int u0), .val (.int u1), .val (.int u2), .val (.int mm), .val (.int k0), .val (.int k1), .val (.int k2), .val (.int k3), .val (.ref s4), .val (.ref s14), .val (.ref s25), .val (.ref s37), .val (.ref a48), .unset, .unset, .unset] [u128]
    have H147 : Own.HS Z h126 ((a48, o_NV (.ref na129) (.ref va130) (.ref oa131) (.int (z141.toInt32))) :: (na129, .inr ((.object "java/lang/String"), kn132, (Own.tN n135 H137 s139))) :: (va130, .inr ((.object "java/lang/Object"), kv133, (Own.tab n135 V138))) :: (oa131, .inr (.int, ko134, (Own.tO n135 o140))) :: tl142) := H127
    have so148 := hq145.1 _ _ so117
    have so149 := hq145.1 _ _ so118
    have so150 := hq145.1 _ _ so119
    have so151 := hq145.1 _ _ so120
    refine Own.W.pop ok at_111 112 (Own.cat_of hq143) ?_
    refine Own.W.aload ok at_112 114 rfl rfl ?_
    refine Own.W.aload ok at_114 116 rfl rfl ?_
    refine Own.W.iconst ok at_116 117 (2 : Int32) rfl ?_
    refine Own.W.callS ok tb (argsL := [(.int (2 : Int32))]) (rest := [(.ref s25), (.ref a48)]) 70 71 52 72 rfl rfl rfl rfl at_117 pd_20 (c_ival l tb (2 : Int32) ca ccl ((a48, o_NV (.ref na129) (.ref va130) (.ref oa131) (.int (z141.toInt32))) :: (na129, .inr ((.object "java/lang/String"), kn132, (Own.tN n135 H137 s139))) :: (va130, .inr ((.object "java/lang/Object"), kv133, (Own.tab n135 V138))) :: (oa131, .inr (.int, ko134, (Own.tO n135 o140))) :: []) tl142 h126 ((a48, o_NV (.ref na129) (.ref va130) (.ref oa131) (.int (z141.toInt32))) :: (na129, .inr ((.object "java/lang/String"), kn132, (Own.tN n135 H137 s139))) :: (va130, .inr ((.object "java/lang/Object"), kv133, (Own.tab n135 V138))) :: (oa131, .inr (.int, ko134, (Own.tO n135 o140))) :: tl142) H147 rfl SH SCA BX (by decide) (by decide)) 2 25 153 120 ?_
    rintro _ h152 ⟨u154, tl155, rfl, H153, hq156, hq157⟩
    show Own.W l Z _ K _ h152 25 153 120 #[.val (.int u0), .val (.int u1), .val (.int u2), .val (.int mm), .val (.int k0), .val (.int k1), .val (.int k2), .val (.int k3), .val (.ref s4), .val (.ref s14), .val (.ref s25), .val (.ref s37), .val (.ref a48), .unset, .unset, .unset] [u154, (.ref s25), (.ref a48)]
    have H158 : Own.HS Z h152 ((a48, o_NV (.ref na129) (.ref va130) (.ref oa131) (.int (z141.toInt32))) :: (na129, .inr ((.object "java/lang/String"), kn132, (Own.tN n135 H137 s139))) :: (va130, .inr ((.object "java/lang/Object"), kv133, (Own.tab n135 V138))) :: (oa131, .inr (.int, ko134, (Own.tO n135 o140))) :: tl155) := H153
    have so159 := hq157.1 _ _ so148
    have so160 := hq157.1 _ _ so149
    have so161 := hq157.1 _ _ so150
    have so162 := hq157.1 _ _ so151
    have TS163 := Own.TS.mono hq144 hq157
    have H164 : Own.HS Z h152 ((oa131, .inr (.int, ko134, (Own.tO n135 o140))) :: (a48, o_NV (.ref na129) (.ref va130) (.ref oa131) (.int (z141.toInt32))) :: (na129, .inr ((.object "java/lang/String"), kn132, (Own.tN n135 H137 s139))) :: (va130, .inr ((.object "java/lang/Object"), kv133, (Own.tab n135 V138))) :: tl155) := H158.pull 3 _ rfl rfl
    have H165 : Own.HS Z h152 ((va130, .inr ((.object "java/lang/Object"), kv133, (Own.tab n135 V138))) :: (oa131, .inr (.int, ko134, (Own.tO n135 o140))) :: (a48, o_NV (.ref na129) (.ref va130) (.ref oa131) (.int (z141.toInt32))) :: (na129, .inr ((.object "java/lang/String"), kn132, (Own.tN n135 H137 s139))) :: tl155) := H164.pull 3 _ rfl rfl
    have H166 : Own.HS Z h152 ((na129, .inr ((.object "java/lang/String"), kn132, (Own.tN n135 H137 s139))) :: (va130, .inr ((.object "java/lang/Object"), kv133, (Own.tab n135 V138))) :: (oa131, .inr (.int, ko134, (Own.tO n135 o140))) :: (a48, o_NV (.ref na129) (.ref va130) (.ref oa131) (.int (z141.toInt32))) :: tl155) := H165.pull 3 _ rfl rfl
    have H167 : Own.HS Z h152 ((a48, o_NV (.ref na129) (.ref va130) (.ref oa131) (.int (z141.toInt32))) :: (na129, .inr ((.object "java/lang/String"), kn132, (Own.tN n135 H137 s139))) :: (va130, .inr ((.object "java/lang/Object"), kv133, (Own.tab n135 V138))) :: (oa131, .inr (.int, ko134, (Own.tO n135 o140))) :: tl155) := H166.pull 3 _ rfl rfl
    refine Own.W.callV ok tb (a := a48) (argsL := [(.ref s25), u154]) (rest := []) 76 77 79 78 80 36 rfl rfl rfl rfl rfl rfl (notFace_of_selects (args := #[]) (mvT ok.2.1 (tb _ (List.mem_of_getElem? (i := 79) rfl)))) (H167.exa (i := 0) rfl) at_120 pd_8 (c_putB l tb a48 na129 va130 oa131 kn132 kv133 ko134 n135 K136 H137 V138 s139 o140 (Own.updL (Own.updL [] k0 u70) k1 u112) z141 s25 k2 c0 u154 [] tl155 h152 (tl155) H167 rfl SC hc0 TS163 (by have := TS163.1.1; have := TS163.2.2.1; have := hz67; have := hq104; have := hq146; omega) so161 (Or.inr ⟨_, hq156⟩)) 0 28 193 123 ?_
    rintro _ h168 ⟨u170, na171, va172, oa173, kn174, kv175, ko176, n177, K178, H179, V180, s181, o182, z183, tl184, rfl, H169, hq185, hq186, hq187, hq188⟩
    show Own.W l Z _ K _ h168 28 193 123 #[.val (.int u0), .val (.int u1), .val (.int u2), .val (.int mm), .val (.int k0), .val (.int k1), .val (.int k2), .val (.int k3), .val (.ref s4), .val (.ref s14), .val (.ref s25), .val (.ref s37), .val (.ref a48), .unset, .unset, .unset] [u170]
    have H189 : Own.HS Z h168 ((a48, o_NV (.ref na171) (.ref va172) (.ref oa173) (.int (z183.toInt32))) :: (na171, .inr ((.object "java/lang/String"), kn174, (Own.tN n177 H179 s181))) :: (va172, .inr ((.object "java/lang/Object"), kv175, (Own.tab n177 V180))) :: (oa173, .inr (.int, ko176, (Own.tO n177 o182))) :: tl184) := H169
    have so190 := hq187.1 _ _ so159
    have so191 := hq187.1 _ _ so160
    have so192 := hq187.1 _ _ so161
    have so193 := hq187.1 _ _ so162
    refine Own.W.pop ok at_123 124 (Own.cat_of hq185) ?_
    refine Own.W.aload ok at_124 126 rfl rfl ?_
    refine Own.W.aload ok at_126 128 rfl rfl ?_
    refine Own.W.iconst ok at_128 129 (3 : Int32) rfl ?_
    refine Own.W.callS ok tb (argsL := [(.int (3 : Int32))]) (rest := [(.ref s37), (.ref a48)]) 70 71 52 72 rfl rfl rfl rfl at_129 pd_20 (c_ival l tb (3 : Int32) ca ccl ((a48, o_NV (.ref na171) (.ref va172) (.ref oa173) (.int (z183.toInt32))) :: (na171, .inr ((.object "java/lang/String"), kn174, (Own.tN n177 H179 s181))) :: (va172, .inr ((.object "java/lang/Object"), kv175, (Own.tab n177 V180))) :: (oa173, .inr (.int, ko176, (Own.tO n177 o182))) :: []) tl184 h168 ((a48, o_NV (.ref na171) (.ref va172) (.ref oa173) (.int (z183.toInt32))) :: (na171, .inr ((.object "java/lang/String"), kn174, (Own.tN n177 H179 s181))) :: (va172, .inr ((.object "java/lang/Object"), kv175, (Own.tab n177 V180))) :: (oa173, .inr (.int, ko176, (Own.tO n177 o182))) :: tl184) H189 rfl SH SCA BX (by decide) (by decide)) 2 29 194 132 ?_
    rintro _ h194 ⟨u196, tl197, rfl, H195, hq198, hq199⟩
    show Own.W l Z _ K _ h194 29 194 132 #[.val (.int u0), .val (.int u1), .val (.int u2), .val (.int mm), .val (.int k0), .val (.int k1), .val (.int k2), .val (.int k3), .val (.ref s4), .val (.ref s14), .val (.ref s25), .val (.ref s37), .val (.ref a48), .unset, .unset, .unset] [u196, (.ref s37), (.ref a48)]
    have H200 : Own.HS Z h194 ((a48, o_NV (.ref na171) (.ref va172) (.ref oa173) (.int (z183.toInt32))) :: (na171, .inr ((.object "java/lang/String"), kn174, (Own.tN n177 H179 s181))) :: (va172, .inr ((.object "java/lang/Object"), kv175, (Own.tab n177 V180))) :: (oa173, .inr (.int, ko176, (Own.tO n177 o182))) :: tl197) := H195
    have so201 := hq199.1 _ _ so190
    have so202 := hq199.1 _ _ so191
    have so203 := hq199.1 _ _ so192
    have so204 := hq199.1 _ _ so193
    have TS205 := Own.TS.mono hq186 hq199
    have H206 : Own.HS Z h194 ((oa173, .inr (.int, ko176, (Own.tO n177 o182))) :: (a48, o_NV (.ref na171) (.ref va172) (.ref oa173) (.int (z183.toInt32))) :: (na171, .inr ((.object "java/lang/String"), kn174, (Own.tN n177 H179 s181))) :: (va172, .inr ((.object "java/lang/Object"), kv175, (Own.tab n177 V180))) :: tl197) := H200.pull 3 _ rfl rfl
    have H207 : Own.HS Z h194 ((va172, .inr ((.object "java/lang/Object"), kv175, (Own.tab n177 V180))) :: (oa173, .inr (.int, ko176, (Own.tO n177 o182))) :: (a48, o_NV (.ref na171) (.ref va172) (.ref oa173) (.int (z183.toInt32))) :: (na171, .inr ((.object "java/lang/String"), kn174, (Own.tN n177 H179 s181))) :: tl197) := H206.pull 3 _ rfl rfl
    have H208 : Own.HS Z h194 ((na171, .inr ((.object "java/lang/String"), kn174, (Own.tN n177 H179 s181))) :: (va172, .inr ((.object "java/lang/Object"), kv175, (Own.tab n177 V180))) :: (oa173, .inr (.int, ko176, (Own.tO n177 o182))) :: (a48, o_NV (.ref na171) (.ref va172) (.ref oa173) (.int (z183.toInt32))) :: tl197) := H207.pull 3 _ rfl rfl
    have H209 : Own.HS Z h194 ((a48, o_NV (.ref na171) (.ref va172) (.ref oa173) (.int (z183.toInt32))) :: (na171, .inr ((.object "java/lang/String"), kn174, (Own.tN n177 H179 s181))) :: (va172, .inr ((.object "java/lang/Object"), kv175, (Own.tab n177 V180))) :: (oa173, .inr (.int, ko176, (Own.tO n177 o182))) :: tl197) := H208.pull 3 _ rfl rfl
    refine Own.W.callV ok tb (a := a48) (argsL := [(.ref s37), u196]) (rest := []) 76 77 79 78 80 36 rfl rfl rfl rfl rfl rfl (notFace_of_selects (args := #[]) (mvT ok.2.1 (tb _ (List.mem_of_getElem? (i := 79) rfl)))) (H209.exa (i := 0) rfl) at_132 pd_8 (c_putB l tb a48 na171 va172 oa173 kn174 kv175 ko176 n177 K178 H179 V180 s181 o182 (Own.updL (Own.updL (Own.updL [] k0 u70) k1 u112) k2 u154) z183 s37 k3 c0 u196 [] tl197 h194 (tl197) H209 rfl SC hc0 TS205 (by have := TS205.1.1; have := TS205.2.2.1; have := hz67; have := hq104; have := hq146; have := hq188; omega) so204 (Or.inr ⟨_, hq198⟩)) 0 32 234 135 ?_
    rintro _ h210 ⟨u212, na213, va214, oa215, kn216, kv217, ko218, n219, K220, H221, V222, s223, o224, z225, tl226, rfl, H211, hq227, hq228, hq229, hq230⟩
    show Own.W l Z _ K _ h210 32 234 135 #[.val (.int u0), .val (.int u1), .val (.int u2), .val (.int mm), .val (.int k0), .val (.int k1), .val (.int k2), .val (.int k3), .val (.ref s4), .val (.ref s14), .val (.ref s25), .val (.ref s37), .val (.ref a48), .unset, .unset, .unset] [u212]
    have H231 : Own.HS Z h210 ((a48, o_NV (.ref na213) (.ref va214) (.ref oa215) (.int (z225.toInt32))) :: (na213, .inr ((.object "java/lang/String"), kn216, (Own.tN n219 H221 s223))) :: (va214, .inr ((.object "java/lang/Object"), kv217, (Own.tab n219 V222))) :: (oa215, .inr (.int, ko218, (Own.tO n219 o224))) :: tl226) := H211
    have so232 := hq229.1 _ _ so201
    have so233 := hq229.1 _ _ so202
    have so234 := hq229.1 _ _ so203
    have so235 := hq229.1 _ _ so204
    refine Own.W.pop ok at_135 136 (Own.cat_of hq227) ?_
    refine Own.W.iconst ok at_136 137 (4 : Int32) rfl ?_
    refine Own.W.newP ok tb H231 4 rfl at_137 4 [(.int (0 : Int32)), (.int (0 : Int32)), (.int (0 : Int32)), (.int (0 : Int32))] rfl 33 238 139 (by decide) (by decide) (fun a236 k237 h238 H239 => ?_)
    show Own.W l Z _ K _ h238 33 238 139 #[.val (.int u0), .val (.int u1), .val (.int u2), .val (.int mm), .val (.int k0), .val (.int k1), .val (.int k2), .val (.int k3), .val (.ref s4), .val (.ref s14), .val (.ref s25), .val (.ref s37), .val (.ref a48), .unset, .unset, .unset] [(.ref a236)]
    refine Own.W.astore ok at_139 141 #[.val (.int u0), .val (.int u1), .val (.int u2), .val (.int mm), .val (.int k0), .val (.int k1), .val (.int k2), .val (.int k3), .val (.ref s4), .val (.ref s14), .val (.ref s25), .val (.ref s37), .val (.ref a48), .val (.ref a236), .unset, .unset] rfl rfl ?_
    refine Own.W.iconst ok at_141 142 (0 : Int32) rfl ?_
    refine Own.W.istore ok at_142 144 #[.val (.int u0), .val (.int u1), .val (.int u2), .val (.int mm), .val (.int k0), .val (.int k1), .val (.int k2), .val (.int k3), .val (.ref s4), .val (.ref s14), .val (.ref s25), .val (.ref s37), .val (.ref a48), .val (.ref a236), .val (.int (0 : Int32)), .unset] rfl ?_
    refine Own.W.aload ok at_144 146 rfl rfl ?_
    refine Own.W.iload ok at_146 148 rfl ?_
    refine Own.W.iload ok at_148 150 rfl ?_
    refine Own.W.cast ok H239 (i := 0) rfl (by decide) (Nat.le_of_ble_eq_true rfl) k0 (Own.nar_chr gk0) at_150 151 ((a236, .inr (.char, k237, [(.int k0), (.int (0 : Int32)), (.int (0 : Int32)), (.int (0 : Int32))])) :: (a48, o_NV (.ref na213) (.ref va214) (.ref oa215) (.int (z225.toInt32))) :: (na213, .inr ((.object "java/lang/String"), kn216, (Own.tN n219 H221 s223))) :: (va214, .inr ((.object "java/lang/Object"), kv217, (Own.tab n219 V222))) :: (oa215, .inr (.int, ko218, (Own.tO n219 o224))) :: tl226) rfl (fun h240 H241 => ?_)
    have JX1 : ∀ (hx1 : Heap) (X1 : List Value) (kk1 : Nat), Own.HS Z hx1 ((a236, .inr (.char, k237, X1)) :: (a48, o_NV (.ref na213) (.ref va214) (.ref oa215) (.int (z225.toInt32))) :: (na213, .inr ((.object "java/lang/String"), kn216, (Own.tN n219 H221 s223))) :: (va214, .inr ((.object "java/lang/Object"), kv217, (Own.tab n219 V222))) :: (oa215, .inr (.int, ko218, (Own.tO n219 o224))) :: tl226) → Own.XP X1 (Own.updL [] k0 u70) → (Own.updL [] k0 u70).length = kk1 → kk1 ≤ 1 → Own.W l Z room_1 K (fun rr h' => rr = some (.int (1 : Int32)) ∧ True) hx1 33 238 154 #[.val (.int u0), .val (.int u1), .val (.int u2), .val (.int mm), .val (.int k0), .val (.int k1), .val (.int k2), .val (.int k3), .val (.ref s4), .val (.ref s14), .val (.ref s25), .val (.ref s37), .val (.ref a48), .val (.ref a236), .val (.int (kk1.toInt32)), .unset] [] := by
      intro hx1 X1 kk1 Hx1 hX1 hl1 hk1
      have JX2 : ∀ (hx2 : Heap) (X2 : List Value) (kk2 : Nat), Own.HS Z hx2 ((a236, .inr (.char, k237, X2)) :: (a48, o_NV (.ref na213) (.ref va214) (.ref oa215) (.int (z225.toInt32))) :: (na213, .inr ((.object "java/lang/String"), kn216, (Own.tN n219 H221 s223))) :: (va214, .inr ((.object "java/lang/Object"), kv217, (Own.tab n219 V222))) :: (oa215, .inr (.int, ko218, (Own.tO n219 o224))) :: tl226) → Own.XP X2 (Own.updL (Own.updL [] k0 u70) k1 u112) → (Own.updL (Own.updL [] k0 u70) k1 u112).length = kk2 → kk2 ≤ 2 → Own.W l Z room_1 K (fun rr h' => rr = some (.int (1 : Int32)) ∧ True) hx2 33 238 171 #[.val (.int u0), .val (.int u1), .val (.int u2), .val (.int mm), .val (.int k0), .val (.int k1), .val (.int k2), .val (.int k3), .val (.ref s4), .val (.ref s14), .val (.ref s25), .val (.ref s37), .val (.ref a48), .val (.ref a236), .val (.int (kk2.toInt32)), .unset] [] := by
        intro hx2 X2 kk2 Hx2 hX2 hl2 hk2
        have JX3 : ∀ (hx3 : Heap) (X3 : List Value) (kk3 : Nat), Own.HS Z hx3 ((a236, .inr (.char, k237, X3)) :: (a48, o_NV (.ref na213) (.ref va214) (.ref oa215) (.int (z225.toInt32))) :: (na213, .inr ((.object "java/lang/String"), kn216, (Own.tN n219 H221 s223))) :: (va214, .inr ((.object "java/lang/Object"), kv217, (Own.tab n219 V222))) :: (oa215, .inr (.int, ko218, (Own.tO n219 o224))) :: tl226) → Own.XP X3 (Own.updL (Own.updL (Own.updL [] k0 u70) k1 u112) k2 u154) → (Own.updL (Own.updL (Own.updL [] k0 u70) k1 u112) k2 u154).length = kk3 → kk3 ≤ 3 → Own.W l Z room_1 K (fun rr h' => rr = some (.int (1 : Int32)) ∧ True) hx3 33 238 195 #[.val (.int u0), .val (.int u1), .val (.int u2), .val (.int mm), .val (.int k0), .val (.int k1), .val (.int k2), .val (.int k3), .val (.ref s4), .val (.ref s14), .val (.ref s25), .val (.ref s37), .val (.ref a48), .val (.ref a236), .val (.int (kk3.toInt32)), .unset] [] := by
          intro hx3 X3 kk3 Hx3 hX3 hl3 hk3
          have JX4 : ∀ (hx4 : Heap) (X4 : List Value) (kk4 : Nat), Own.HS Z hx4 ((a236, .inr (.char, k237, X4)) :: (a48, o_NV (.ref na213) (.ref va214) (.ref oa215) (.int (z225.toInt32))) :: (na213, .inr ((.object "java/lang/String"), kn216, (Own.tN n219 H221 s223))) :: (va214, .inr ((.object "java/lang/Object"), kv217, (Own.tab n219 V222))) :: (oa215, .inr (.int, ko218, (Own.tO n219 o224))) :: tl226) → Own.XP X4 (Own.updL (Own.updL (Own.updL (Own.updL [] k0 u70) k1 u112) k2 u154) k3 u196) → (Own.updL (Own.updL (Own.updL (Own.updL [] k0 u70) k1 u112) k2 u154) k3 u196).length = kk4 → kk4 ≤ 4 → Own.W l Z room_1 K (fun rr h' => rr = some (.int (1 : Int32)) ∧ True) hx4 33 238 226 #[.val (.int u0), .val (.int u1), .val (.int u2), .val (.int mm), .val (.int k0), .val (.int k1), .val (.int k2), .val (.int k3), .val (.ref s4), .val (.ref s14), .val (.ref s25), .val (.ref s37), .val (.ref a48), .val (.ref a236), .val (.int (kk4.toInt32)), .unset] [] := by
            intro hx4 X4 kk4 Hx4 hX4 hl4 hk4
            have ez : z225 = kk4 := hq228.2.1.symm.trans hl4
            subst ez
            refine Own.W.aload ok at_226 228 rfl rfl ?_
            have H242 : Own.HS Z hx4 ((a48, o_NV (.ref na213) (.ref va214) (.ref oa215) (.int (z225.toInt32))) :: (a236, .inr (.char, k237, X4)) :: (na213, .inr ((.object "java/lang/String"), kn216, (Own.tN n219 H221 s223))) :: (va214, .inr ((.object "java/lang/Object"), kv217, (Own.tab n219 V222))) :: (oa215, .inr (.int, ko218, (Own.tO n219 o224))) :: tl226) := Hx4.pull 1 _ rfl rfl
            refine Own.W.callV ok tb (a := a48) (argsL := []) (rest := []) 111 112 114 113 115 36 rfl rfl rfl rfl rfl rfl (notFace_of_selects (args := #[]) (mvT ok.2.1 (tb _ (List.mem_of_getElem? (i := 114) rfl)))) (H242.exa (i := 0) rfl) at_228 pd_6 (c_size l tb a48 na213 va214 oa215 (z225.toInt32) hx4 ((a236, .inr (.char, k237, X4)) :: (na213, .inr ((.object "java/lang/String"), kn216, (Own.tN n219 H221 s223))) :: (va214, .inr ((.object "java/lang/Object"), kv217, (Own.tab n219 V222))) :: (oa215, .inr (.int, ko218, (Own.tO n219 o224))) :: tl226) H242) 0 33 238 231 ?_
            rintro _ _ ⟨rfl, rfl⟩
            show Own.W l Z _ K _ hx4 33 238 231 #[.val (.int u0), .val (.int u1), .val (.int u2), .val (.int mm), .val (.int k0), .val (.int k1), .val (.int k2), .val (.int k3), .val (.ref s4), .val (.ref s14), .val (.ref s25), .val (.ref s37), .val (.ref a48), .val (.ref a236), .val (.int (z225.toInt32)), .unset] [(.int (z225.toInt32))]
            refine Own.W.iload ok at_231 233 rfl ?_
            refine Own.W.icmpT ok at_233 238 (rfl : (z225.toInt32) = (z225.toInt32)) ?_
            refine Own.W.aload ok at_238 240 rfl rfl ?_
            refine Own.W.iconst ok at_240 241 (0 : Int32) rfl ?_
            refine Own.W.iload ok at_241 243 rfl ?_
            refine Own.W.aload ok at_243 245 rfl rfl ?_
            have H243 : Own.HS Z hx4 ((a236, .inr (.char, k237, X4)) :: (a48, o_NV (.ref na213) (.ref va214) (.ref oa215) (.int (z225.toInt32))) :: (na213, .inr ((.object "java/lang/String"), kn216, (Own.tN n219 H221 s223))) :: (va214, .inr ((.object "java/lang/Object"), kv217, (Own.tab n219 V222))) :: (oa215, .inr (.int, ko218, (Own.tO n219 o224))) :: tl226) := H242.pull 1 _ rfl rfl
            have H244 : Own.HS Z hx4 ((oa215, .inr (.int, ko218, (Own.tO n219 o224))) :: (a236, .inr (.char, k237, X4)) :: (a48, o_NV (.ref na213) (.ref va214) (.ref oa215) (.int (z225.toInt32))) :: (na213, .inr ((.object "java/lang/String"), kn216, (Own.tN n219 H221 s223))) :: (va214, .inr ((.object "java/lang/Object"), kv217, (Own.tab n219 V222))) :: tl226) := H243.pull 4 _ rfl rfl
            have H245 : Own.HS Z hx4 ((va214, .inr ((.object "java/lang/Object"), kv217, (Own.tab n219 V222))) :: (oa215, .inr (.int, ko218, (Own.tO n219 o224))) :: (a236, .inr (.char, k237, X4)) :: (a48, o_NV (.ref na213) (.ref va214) (.ref oa215) (.int (z225.toInt32))) :: (na213, .inr ((.object "java/lang/String"), kn216, (Own.tN n219 H221 s223))) :: tl226) := H244.pull 4 _ rfl rfl
            have H246 : Own.HS Z hx4 ((na213, .inr ((.object "java/lang/String"), kn216, (Own.tN n219 H221 s223))) :: (va214, .inr ((.object "java/lang/Object"), kv217, (Own.tab n219 V222))) :: (oa215, .inr (.int, ko218, (Own.tO n219 o224))) :: (a236, .inr (.char, k237, X4)) :: (a48, o_NV (.ref na213) (.ref va214) (.ref oa215) (.int (z225.toInt32))) :: tl226) := H245.pull 4 _ rfl rfl
            have H247 : Own.HS Z hx4 ((a48, o_NV (.ref na213) (.ref va214) (.ref oa215) (.int (z225.toInt32))) :: (na213, .inr ((.object "java/lang/String"), kn216, (Own.tN n219 H221 s223))) :: (va214, .inr ((.object "java/lang/Object"), kv217, (Own.tab n219 V222))) :: (oa215, .inr (.int, ko218, (Own.tO n219 o224))) :: (a236, .inr (.char, k237, X4)) :: tl226) := H246.pull 4 _ rfl rfl
            refine Own.W.callS ok tb (argsL := [(.ref a48), (.int (0 : Int32)), (.int (z225.toInt32)), (.ref a236)]) (rest := []) 116 117 2 118 rfl rfl rfl rfl at_245 pd_21 (c_at l tb a48 na213 va214 oa215 kn216 kv217 ko218 n219 K220 H221 V222 s223 o224 (Own.updL (Own.updL (Own.updL (Own.updL [] k0 u70) k1 u112) k2 u154) k3 u196) z225 a236 k237 X4 0 (0 : Int32) c0 tl226 hx4 (tl226) H247 (fun _ m => m) SC hc0 hq228 hX4 (by decide) (by decide)) 0 35 243 248 ?_
            rintro _ h248 ⟨rfl, H249⟩
            show Own.W l Z _ K _ h248 35 243 248 #[.val (.int u0), .val (.int u1), .val (.int u2), .val (.int mm), .val (.int k0), .val (.int k1), .val (.int k2), .val (.int k3), .val (.ref s4), .val (.ref s14), .val (.ref s25), .val (.ref s37), .val (.ref a48), .val (.ref a236), .val (.int (z225.toInt32)), .unset] [(.int (1 : Int32))]
            refine Own.W.istore ok at_248 250 #[.val (.int u0), .val (.int u1), .val (.int u2), .val (.int mm), .val (.int k0), .val (.int k1), .val (.int k2), .val (.int k3), .val (.ref s4), .val (.ref s14), .val (.ref s25), .val (.ref s37), .val (.ref a48), .val (.ref a236), .val (.int (z225.toInt32)), .val (.int (1 : Int32))] rfl ?_
            refine Own.W.iload ok at_250 252 rfl ?_
            refine Own.W.ifF ok at_252 255 (by decide : ¬ ((1 : Int32) = (0 : Int32))) ?_
            refine Own.W.aload ok at_255 257 rfl rfl ?_
            refine Own.W.iconst ok at_257 258 (1 : Int32) rfl ?_
            refine Own.W.iload ok at_258 260 rfl ?_
            refine Own.W.aload ok at_260 262 rfl rfl ?_
            have H250 : Own.HS Z h248 ((a236, .inr (.char, k237, X4)) :: (a48, o_NV (.ref na213) (.ref va214) (.ref oa215) (.int (z225.toInt32))) :: (na213, .inr ((.object "java/lang/String"), kn216, (Own.tN n219 H221 s223))) :: (va214, .inr ((.object "java/lang/Object"), kv217, (Own.tab n219 V222))) :: (oa215, .inr (.int, ko218, (Own.tO n219 o224))) :: tl226) := H249.pull 4 _ rfl rfl
            have H251 : Own.HS Z h248 ((oa215, .inr (.int, ko218, (Own.tO n219 o224))) :: (a236, .inr (.char, k237, X4)) :: (a48, o_NV (.ref na213) (.ref va214) (.ref oa215) (.int (z225.toInt32))) :: (na213, .inr ((.object "java/lang/String"), kn216, (Own.tN n219 H221 s223))) :: (va214, .inr ((.object "java/lang/Object"), kv217, (Own.tab n219 V222))) :: tl226) := H250.pull 4 _ rfl rfl
            have H252 : Own.HS Z h248 ((va214, .inr ((.object "java/lang/Object"), kv217, (Own.tab n219 V222))) :: (oa215, .inr (.int, ko218, (Own.tO n219 o224))) :: (a236, .inr (.char, k237, X4)) :: (a48, o_NV (.ref na213) (.ref va214) (.ref oa215) (.int (z225.toInt32))) :: (na213, .inr ((.object "java/lang/String"), kn216, (Own.tN n219 H221 s223))) :: tl226) := H251.pull 4 _ rfl rfl
            have H253 : Own.HS Z h248 ((na213, .inr ((.object "java/lang/String"), kn216, (Own.tN n219 H221 s223))) :: (va214, .inr ((.object "java/lang/Object"), kv217, (Own.tab n219 V222))) :: (oa215, .inr (.int, ko218, (Own.tO n219 o224))) :: (a236, .inr (.char, k237, X4)) :: (a48, o_NV (.ref na213) (.ref va214) (.ref oa215) (.int (z225.toInt32))) :: tl226) := H252.pull 4 _ rfl rfl
            have H254 : Own.HS Z h248 ((a48, o_NV (.ref na213) (.ref va214) (.ref oa215) (.int (z225.toInt32))) :: (na213, .inr ((.object "java/lang/String"), kn216, (Own.tN n219 H221 s223))) :: (va214, .inr ((.object "java/lang/Object"), kv217, (Own.tab n219 V222))) :: (oa215, .inr (.int, ko218, (Own.tO n219 o224))) :: (a236, .inr (.char, k237, X4)) :: tl226) := H253.pull 4 _ rfl rfl
            refine Own.W.callS ok tb (argsL := [(.ref a48), (.int (1 : Int32)), (.int (z225.toInt32)), (.ref a236)]) (rest := []) 116 117 2 118 rfl rfl rfl rfl at_262 pd_21 (c_at l tb a48 na213 va214 oa215 kn216 kv217 ko218 n219 K220 H221 V222 s223 o224 (Own.updL (Own.updL (Own.updL (Own.updL [] k0 u70) k1 u112) k2 u154) k3 u196) z225 a236 k237 X4 1 (1 : Int32) c0 tl226 h248 (tl226) H254 (fun _ m => m) SC hc0 hq228 hX4 (by decide) (by decide)) 0 37 248 265 ?_
            rintro _ h255 ⟨rfl, H256⟩
            show Own.W l Z _ K _ h255 37 248 265 #[.val (.int u0), .val (.int u1), .val (.int u2), .val (.int mm), .val (.int k0), .val (.int k1), .val (.int k2), .val (.int k3), .val (.ref s4), .val (.ref s14), .val (.ref s25), .val (.ref s37), .val (.ref a48), .val (.ref a236), .val (.int (z225.toInt32)), .val (.int (1 : Int32))] [(.int (1 : Int32))]
            refine Own.W.ifF ok at_265 268 (by decide : ¬ ((1 : Int32) = (0 : Int32))) ?_
            refine Own.W.iconst ok at_268 269 (1 : Int32) rfl ?_
            refine Own.W.goto ok at_269 273 ?_
            refine Own.W.istore ok at_273 275 #[.val (.int u0), .val (.int u1), .val (.int u2), .val (.int mm), .val (.int k0), .val (.int k1), .val (.int k2), .val (.int k3), .val (.ref s4), .val (.ref s14), .val (.ref s25), .val (.ref s37), .val (.ref a48), .val (.ref a236), .val (.int (z225.toInt32)), .val (.int (1 : Int32))] rfl ?_
            refine Own.W.iload ok at_275 277 rfl ?_
            refine Own.W.ifF ok at_277 280 (by decide : ¬ ((1 : Int32) = (0 : Int32))) ?_
            refine Own.W.aload ok at_280 282 rfl rfl ?_
            refine Own.W.iconst ok at_282 283 (2 : Int32) rfl ?_
            refine Own.W.iload ok at_283 285 rfl ?_
            refine Own.W.aload ok at_285 287 rfl rfl ?_
            have H257 : Own.HS Z h255 ((a236, .inr (.char, k237, X4)) :: (a48, o_NV (.ref na213) (.ref va214) (.ref oa215) (.int (z225.toInt32))) :: (na213, .inr ((.object "java/lang/String"), kn216, (Own.tN n219 H221 s223))) :: (va214, .inr ((.object "java/lang/Object"), kv217, (Own.tab n219 V222))) :: (oa215, .inr (.int, ko218, (Own.tO n219 o224))) :: tl226) := H256.pull 4 _ rfl rfl
            have H258 : Own.HS Z h255 ((oa215, .inr (.int, ko218, (Own.tO n219 o224))) :: (a236, .inr (.char, k237, X4)) :: (a48, o_NV (.ref na213) (.ref va214) (.ref oa215) (.int (z225.toInt32))) :: (na213, .inr ((.object "java/lang/String"), kn216, (Own.tN n219 H221 s223))) :: (va214, .inr ((.object "java/lang/Object"), kv217, (Own.tab n219 V222))) :: tl226) := H257.pull 4 _ rfl rfl
            have H259 : Own.HS Z h255 ((va214, .inr ((.object "java/lang/Object"), kv217, (Own.tab n219 V222))) :: (oa215, .inr (.int, ko218, (Own.tO n219 o224))) :: (a236, .inr (.char, k237, X4)) :: (a48, o_NV (.ref na213) (.ref va214) (.ref oa215) (.int (z225.toInt32))) :: (na213, .inr ((.object "java/lang/String"), kn216, (Own.tN n219 H221 s223))) :: tl226) := H258.pull 4 _ rfl rfl
            have H260 : Own.HS Z h255 ((na213, .inr ((.object "java/lang/String"), kn216, (Own.tN n219 H221 s223))) :: (va214, .inr ((.object "java/lang/Object"), kv217, (Own.tab n219 V222))) :: (oa215, .inr (.int, ko218, (Own.tO n219 o224))) :: (a236, .inr (.char, k237, X4)) :: (a48, o_NV (.ref na213) (.ref va214) (.ref oa215) (.int (z225.toInt32))) :: tl226) := H259.pull 4 _ rfl rfl
            have H261 : Own.HS Z h255 ((a48, o_NV (.ref na213) (.ref va214) (.ref oa215) (.int (z225.toInt32))) :: (na213, .inr ((.object "java/lang/String"), kn216, (Own.tN n219 H221 s223))) :: (va214, .inr ((.object "java/lang/Object"), kv217, (Own.tab n219 V222))) :: (oa215, .inr (.int, ko218, (Own.tO n219 o224))) :: (a236, .inr (.char, k237, X4)) :: tl226) := H260.pull 4 _ rfl rfl
            refine Own.W.callS ok tb (argsL := [(.ref a48), (.int (2 : Int32)), (.int (z225.toInt32)), (.ref a236)]) (rest := []) 116 117 2 118 rfl rfl rfl rfl at_287 pd_21 (c_at l tb a48 na213 va214 oa215 kn216 kv217 ko218 n219 K220 H221 V222 s223 o224 (Own.updL (Own.updL (Own.updL (Own.updL [] k0 u70) k1 u112) k2 u154) k3 u196) z225 a236 k237 X4 2 (2 : Int32) c0 tl226 h255 (tl226) H261 (fun _ m => m) SC hc0 hq228 hX4 (by decide) (by decide)) 0 39 253 290 ?_
            rintro _ h262 ⟨rfl, H263⟩
            show Own.W l Z _ K _ h262 39 253 290 #[.val (.int u0), .val (.int u1), .val (.int u2), .val (.int mm), .val (.int k0), .val (.int k1), .val (.int k2), .val (.int k3), .val (.ref s4), .val (.ref s14), .val (.ref s25), .val (.ref s37), .val (.ref a48), .val (.ref a236), .val (.int (z225.toInt32)), .val (.int (1 : Int32))] [(.int (1 : Int32))]
            refine Own.W.ifF ok at_290 293 (by decide : ¬ ((1 : Int32) = (0 : Int32))) ?_
            refine Own.W.iconst ok at_293 294 (1 : Int32) rfl ?_
            refine Own.W.goto ok at_294 298 ?_
            refine Own.W.istore ok at_298 300 #[.val (.int u0), .val (.int u1), .val (.int u2), .val (.int mm), .val (.int k0), .val (.int k1), .val (.int k2), .val (.int k3), .val (.ref s4), .val (.ref s14), .val (.ref s25), .val (.ref s37), .val (.ref a48), .val (.ref a236), .val (.int (z225.toInt32)), .val (.int (1 : Int32))] rfl ?_
            refine Own.W.iload ok at_300 302 rfl ?_
            refine Own.W.ifF ok at_302 305 (by decide : ¬ ((1 : Int32) = (0 : Int32))) ?_
            refine Own.W.aload ok at_305 307 rfl rfl ?_
            refine Own.W.iconst ok at_307 308 (3 : Int32) rfl ?_
            refine Own.W.iload ok at_308 310 rfl ?_
            refine Own.W.aload ok at_310 312 rfl rfl ?_
            have H264 : Own.HS Z h262 ((a236, .inr (.char, k237, X4)) :: (a48, o_NV (.ref na213) (.ref va214) (.ref oa215) (.int (z225.toInt32))) :: (na213, .inr ((.object "java/lang/String"), kn216, (Own.tN n219 H221 s223))) :: (va214, .inr ((.object "java/lang/Object"), kv217, (Own.tab n219 V222))) :: (oa215, .inr (.int, ko218, (Own.tO n219 o224))) :: tl226) := H263.pull 4 _ rfl rfl
            have H265 : Own.HS Z h262 ((oa215, .inr (.int, ko218, (Own.tO n219 o224))) :: (a236, .inr (.char, k237, X4)) :: (a48, o_NV (.ref na213) (.ref va214) (.ref oa215) (.int (z225.toInt32))) :: (na213, .inr ((.object "java/lang/String"), kn216, (Own.tN n219 H221 s223))) :: (va214, .inr ((.object "java/lang/Object"), kv217, (Own.tab n219 V222))) :: tl226) := H264.pull 4 _ rfl rfl
            have H266 : Own.HS Z h262 ((va214, .inr ((.object "java/lang/Object"), kv217, (Own.tab n219 V222))) :: (oa215, .inr (.int, ko218, (Own.tO n219 o224))) :: (a236, .inr (.char, k237, X4)) :: (a48, o_NV (.ref na213) (.ref va214) (.ref oa215) (.int (z225.toInt32))) :: (na213, .inr ((.object "java/lang/String"), kn216, (Own.tN n219 H221 s223))) :: tl226) := H265.pull 4 _ rfl rfl
            have H267 : Own.HS Z h262 ((na213, .inr ((.object "java/lang/String"), kn216, (Own.tN n219 H221 s223))) :: (va214, .inr ((.object "java/lang/Object"), kv217, (Own.tab n219 V222))) :: (oa215, .inr (.int, ko218, (Own.tO n219 o224))) :: (a236, .inr (.char, k237, X4)) :: (a48, o_NV (.ref na213) (.ref va214) (.ref oa215) (.int (z225.toInt32))) :: tl226) := H266.pull 4 _ rfl rfl
            have H268 : Own.HS Z h262 ((a48, o_NV (.ref na213) (.ref va214) (.ref oa215) (.int (z225.toInt32))) :: (na213, .inr ((.object "java/lang/String"), kn216, (Own.tN n219 H221 s223))) :: (va214, .inr ((.object "java/lang/Object"), kv217, (Own.tab n219 V222))) :: (oa215, .inr (.int, ko218, (Own.tO n219 o224))) :: (a236, .inr (.char, k237, X4)) :: tl226) := H267.pull 4 _ rfl rfl
            refine Own.W.callS ok tb (argsL := [(.ref a48), (.int (3 : Int32)), (.int (z225.toInt32)), (.ref a236)]) (rest := []) 116 117 2 118 rfl rfl rfl rfl at_312 pd_21 (c_at l tb a48 na213 va214 oa215 kn216 kv217 ko218 n219 K220 H221 V222 s223 o224 (Own.updL (Own.updL (Own.updL (Own.updL [] k0 u70) k1 u112) k2 u154) k3 u196) z225 a236 k237 X4 3 (3 : Int32) c0 tl226 h262 (tl226) H268 (fun _ m => m) SC hc0 hq228 hX4 (by decide) (by decide)) 0 41 258 315 ?_
            rintro _ h269 ⟨rfl, H270⟩
            show Own.W l Z _ K _ h269 41 258 315 #[.val (.int u0), .val (.int u1), .val (.int u2), .val (.int mm), .val (.int k0), .val (.int k1), .val (.int k2), .val (.int k3), .val (.ref s4), .val (.ref s14), .val (.ref s25), .val (.ref s37), .val (.ref a48), .val (.ref a236), .val (.int (z225.toInt32)), .val (.int (1 : Int32))] [(.int (1 : Int32))]
            refine Own.W.ifF ok at_315 318 (by decide : ¬ ((1 : Int32) = (0 : Int32))) ?_
            refine Own.W.iconst ok at_318 319 (1 : Int32) rfl ?_
            refine Own.W.goto ok at_319 323 ?_
            refine Own.W.istore ok at_323 325 #[.val (.int u0), .val (.int u1), .val (.int u2), .val (.int mm), .val (.int k0), .val (.int k1), .val (.int k2), .val (.int k3), .val (.ref s4), .val (.ref s14), .val (.ref s25), .val (.ref s37), .val (.ref a48), .val (.ref a236), .val (.int (z225.toInt32)), .val (.int (1 : Int32))] rfl ?_
            refine Own.W.iload ok at_325 327 rfl ?_
            exact Own.W.iret ok at_327 rfl ⟨rfl, trivial⟩
          refine Own.W.iload ok at_195 197 rfl ?_
          refine Own.W.iload ok at_197 199 rfl ?_
          refine Own.W.icmp ok at_199 226 202 (fun (hc271 : k3 = k0) => ?_) (fun (hc271 : ¬ (k3 = k0)) => ?_)
          · exact JX4 _ _ _ Hx3 (hX3.old (Own.keys_updL.mpr (Or.inl (Own.keys_updL.mpr (Or.inl (Own.keys_updL.mpr (Or.inr hc271.symm))))))).1 ((hX3.old (Own.keys_updL.mpr (Or.inl (Own.keys_updL.mpr (Or.inl (Own.keys_updL.mpr (Or.inr hc271.symm))))))).2.trans hl3) (by omega)
          · refine Own.W.iload ok at_202 204 rfl ?_
            refine Own.W.iload ok at_204 206 rfl ?_
            refine Own.W.icmp ok at_206 226 209 (fun (hc272 : k3 = k1) => ?_) (fun (hc272 : ¬ (k3 = k1)) => ?_)
            · exact JX4 _ _ _ Hx3 (hX3.old (Own.keys_updL.mpr (Or.inl (Own.keys_updL.mpr (Or.inr hc272.symm))))).1 ((hX3.old (Own.keys_updL.mpr (Or.inl (Own.keys_updL.mpr (Or.inr hc272.symm))))).2.trans hl3) (by omega)
            · refine Own.W.iload ok at_209 211 rfl ?_
              refine Own.W.iload ok at_211 213 rfl ?_
              refine Own.W.icmp ok at_213 226 216 (fun (hc273 : k3 = k2) => ?_) (fun (hc273 : ¬ (k3 = k2)) => ?_)
              · exact JX4 _ _ _ Hx3 (hX3.old (Own.keys_updL.mpr (Or.inr hc273.symm))).1 ((hX3.old (Own.keys_updL.mpr (Or.inr hc273.symm))).2.trans hl3) (by omega)
              · refine Own.W.aload ok at_216 218 rfl rfl ?_
                refine Own.W.iload ok at_218 220 rfl ?_
                refine Own.W.iload ok at_220 222 rfl ?_
                refine Own.W.cast ok Hx3 (i := 0) rfl (Own.ix (by omega)).2 (by rw [(Own.ix (by omega)).1, hX3.1]; omega) k3 (Own.nar_chr gk3) at_222 223 ((a236, .inr (.char, k237, (X3.set kk3 (.int k3)))) :: (a48, o_NV (.ref na213) (.ref va214) (.ref oa215) (.int (z225.toInt32))) :: (na213, .inr ((.object "java/lang/String"), kn216, (Own.tN n219 H221 s223))) :: (va214, .inr ((.object "java/lang/Object"), kv217, (Own.tab n219 V222))) :: (oa215, .inr (.int, ko218, (Own.tO n219 o224))) :: tl226) (by rw [(Own.ix (by omega : kk3 < 2 ^ 31)).1]; rfl) (fun h274 H275 => ?_)
                refine Own.W.iinc ok at_223 226 ((kk3 + 1).toInt32) #[.val (.int u0), .val (.int u1), .val (.int u2), .val (.int mm), .val (.int k0), .val (.int k1), .val (.int k2), .val (.int k3), .val (.ref s4), .val (.ref s14), .val (.ref s25), .val (.ref s37), .val (.ref a48), .val (.ref a236), .val (.int ((kk3 + 1).toInt32)), .unset] rfl (Own.sucI kk3) rfl ?_
                exact JX4 _ _ (kk3 + 1) H275 (hl3 ▸ (hX3.new (Own.nk (Own.nk (Own.nk Own.nk0 hc271) hc272) hc273) (by omega)).1) ((hX3.new (Own.nk (Own.nk (Own.nk Own.nk0 hc271) hc272) hc273) (by omega)).2.trans (congrArg (· + 1) hl3)) (by omega)
        refine Own.W.iload ok at_171 173 rfl ?_
        refine Own.W.iload ok at_173 175 rfl ?_
        refine Own.W.icmp ok at_175 195 178 (fun (hc276 : k2 = k0) => ?_) (fun (hc276 : ¬ (k2 = k0)) => ?_)
        · exact JX3 _ _ _ Hx2 (hX2.old (Own.keys_updL.mpr (Or.inl (Own.keys_updL.mpr (Or.inr hc276.symm))))).1 ((hX2.old (Own.keys_updL.mpr (Or.inl (Own.keys_updL.mpr (Or.inr hc276.symm))))).2.trans hl2) (by omega)
        · refine Own.W.iload ok at_178 180 rfl ?_
          refine Own.W.iload ok at_180 182 rfl ?_
          refine Own.W.icmp ok at_182 195 185 (fun (hc277 : k2 = k1) => ?_) (fun (hc277 : ¬ (k2 = k1)) => ?_)
          · exact JX3 _ _ _ Hx2 (hX2.old (Own.keys_updL.mpr (Or.inr hc277.symm))).1 ((hX2.old (Own.keys_updL.mpr (Or.inr hc277.symm))).2.trans hl2) (by omega)
          · refine Own.W.aload ok at_185 187 rfl rfl ?_
            refine Own.W.iload ok at_187 189 rfl ?_
            refine Own.W.iload ok at_189 191 rfl ?_
            refine Own.W.cast ok Hx2 (i := 0) rfl (Own.ix (by omega)).2 (by rw [(Own.ix (by omega)).1, hX2.1]; omega) k2 (Own.nar_chr gk2) at_191 192 ((a236, .inr (.char, k237, (X2.set kk2 (.int k2)))) :: (a48, o_NV (.ref na213) (.ref va214) (.ref oa215) (.int (z225.toInt32))) :: (na213, .inr ((.object "java/lang/String"), kn216, (Own.tN n219 H221 s223))) :: (va214, .inr ((.object "java/lang/Object"), kv217, (Own.tab n219 V222))) :: (oa215, .inr (.int, ko218, (Own.tO n219 o224))) :: tl226) (by rw [(Own.ix (by omega : kk2 < 2 ^ 31)).1]; rfl) (fun h278 H279 => ?_)
            refine Own.W.iinc ok at_192 195 ((kk2 + 1).toInt32) #[.val (.int u0), .val (.int u1), .val (.int u2), .val (.int mm), .val (.int k0), .val (.int k1), .val (.int k2), .val (.int k3), .val (.ref s4), .val (.ref s14), .val (.ref s25), .val (.ref s37), .val (.ref a48), .val (.ref a236), .val (.int ((kk2 + 1).toInt32)), .unset] rfl (Own.sucI kk2) rfl ?_
            exact JX3 _ _ (kk2 + 1) H279 (hl2 ▸ (hX2.new (Own.nk (Own.nk Own.nk0 hc276) hc277) (by omega)).1) ((hX2.new (Own.nk (Own.nk Own.nk0 hc276) hc277) (by omega)).2.trans (congrArg (· + 1) hl2)) (by omega)
      refine Own.W.iload ok at_154 156 rfl ?_
      refine Own.W.iload ok at_156 158 rfl ?_
      refine Own.W.icmp ok at_158 171 161 (fun (hc280 : k1 = k0) => ?_) (fun (hc280 : ¬ (k1 = k0)) => ?_)
      · exact JX2 _ _ _ Hx1 (hX1.old (Own.keys_updL.mpr (Or.inr hc280.symm))).1 ((hX1.old (Own.keys_updL.mpr (Or.inr hc280.symm))).2.trans hl1) (by omega)
      · refine Own.W.aload ok at_161 163 rfl rfl ?_
        refine Own.W.iload ok at_163 165 rfl ?_
        refine Own.W.iload ok at_165 167 rfl ?_
        refine Own.W.cast ok Hx1 (i := 0) rfl (Own.ix (by omega)).2 (by rw [(Own.ix (by omega)).1, hX1.1]; omega) k1 (Own.nar_chr gk1) at_167 168 ((a236, .inr (.char, k237, (X1.set kk1 (.int k1)))) :: (a48, o_NV (.ref na213) (.ref va214) (.ref oa215) (.int (z225.toInt32))) :: (na213, .inr ((.object "java/lang/String"), kn216, (Own.tN n219 H221 s223))) :: (va214, .inr ((.object "java/lang/Object"), kv217, (Own.tab n219 V222))) :: (oa215, .inr (.int, ko218, (Own.tO n219 o224))) :: tl226) (by rw [(Own.ix (by omega : kk1 < 2 ^ 31)).1]; rfl) (fun h281 H282 => ?_)
        refine Own.W.iinc ok at_168 171 ((kk1 + 1).toInt32) #[.val (.int u0), .val (.int u1), .val (.int u2), .val (.int mm), .val (.int k0), .val (.int k1), .val (.int k2), .val (.int k3), .val (.ref s4), .val (.ref s14), .val (.ref s25), .val (.ref s37), .val (.ref a48), .val (.ref a236), .val (.int ((kk1 + 1).toInt32)), .unset] rfl (Own.sucI kk1) rfl ?_
        exact JX2 _ _ (kk1 + 1) H282 (hl1 ▸ (hX1.new (Own.nk Own.nk0 hc280) (by omega)).1) ((hX1.new (Own.nk Own.nk0 hc280) (by omega)).2.trans (congrArg (· + 1) hl1)) (by omega)
    refine Own.W.iinc ok at_151 154 ((1 : Nat).toInt32) #[.val (.int u0), .val (.int u1), .val (.int u2), .val (.int mm), .val (.int k0), .val (.int k1), .val (.int k2), .val (.int k3), .val (.ref s4), .val (.ref s14), .val (.ref s25), .val (.ref s37), .val (.ref a48), .val (.ref a236), .val (.int ((1 : Nat).toInt32)), .unset] rfl (by decide) rfl ?_
    exact JX1 _ _ 1 H241 Own.XP.one.1 Own.XP.one.2 (Nat.le_refl _)
  refine Own.W.iff ok at_3 10 6 (fun (hc283 : (u2 &&& (1 : Int32)) = (0 : Int32)) => ?_) (fun (hc283 : ¬ ((u2 &&& (1 : Int32)) = (0 : Int32))) => ?_)
  · refine Own.W.sipush ok at_10 13 (255 : Int32) rfl ?_
    exact J1 (255 : Int32) (Or.inr rfl)
  · refine Own.W.iconst ok at_6 7 (3 : Int32) rfl ?_
    refine Own.W.goto ok at_7 13 ?_
    exact J1 (3 : Int32) (Or.inl rfl)
set_option maxRecDepth 65536 in
set_option maxHeartbeats 4000000 in
theorem comes_1 {Post : Tables → Env → Array Value → State → Outcome → State → Prop} (hpost : ∀ tb e args s v u, (limb_1_1.after args s (.returned v) u = true ∧ limb_1_2.after args s (.returned v) u = true ∧ True) → FrameEnd s (.returned v) u (Jvm.fieldLocs frame_1_writes args s ++ Jvm.arrayLocs frame_1_arrays args s ++ Jvm.staticLocs frame_1_statics s) 72 320 → Post tb e args s (.returned v) u) :
    ArmFor flags0 classFile x code maxLocals ret World_1 tables_1 room_1 Calls_1 rest_1 Pre_1 Post := by
  intro l hfl _ _ p e ha hc hk s m args below hf hA hF happ hP
  obtain ⟨hcalls, hrest, hpre⟩ := hP
  obtain ⟨-, -, -, hnamed, -, -, -, hat⟩ := (Spec.applies_iff hf).mp happ
  obtain ⟨hg, hn⟩ := and_e (Cond.before_iff.mp (show (Jvm.Cond.and given_1 narrow_1).before args s = true from hpre))
  obtain ⟨hg0, hr0⟩ := and_e hg
  obtain ⟨hg1, hr1⟩ := and_e hr0
  obtain ⟨hg2, hr2⟩ := and_e hr1
  obtain ⟨w0, w1, w2, rfl⟩ : ∃ w0 w1 w2 : Value, args = #[w0, w1, w2] := by
    have hs : args.size = 3 := by simpa [Cond.value, given_1] using hg0
    obtain ⟨L⟩ := args
    match L, hs with
    | [w0, w1, w2], _ => exact ⟨w0, w1, w2, rfl⟩
  have hw := fun d (hd : d ∈ tables_1) => atoms_spec (ws := Jvm.Cond.code x code maxLocals ret :: tables_1) hat d (List.mem_cons_of_mem _ hd)
  have hfit : Fit s := fun {y c} hc i hi => by
    obtain ⟨ha, rfl⟩ := Array.getElem?_eq_some_iff.mp hc
    have q := List.all_eq_true.mp ((Array.all_eq_true_iff_forall_mem.mp hF) _ (Array.getElem_mem ha)) i (List.mem_range.mpr hi)
    simpa [Array.getElem?_eq_getElem hi] using q
  obtain ⟨hsets, hown0⟩ := atoms_of _ (rest_1_c_eq ▸ (show rest_1_c.before _ s = true from hrest))
  obtain ⟨i0, ei0⟩ := is_v hg1
  obtain rfl : w0 = (.int i0) := Option.some.inj ei0
  obtain ⟨i1, ei1⟩ := is_v hg2
  obtain rfl : w1 = (.int i1) := Option.some.inj ei1
  obtain ⟨i2, ei2⟩ := is_v hr2
  obtain rfl : w2 = (.int i2) := Option.some.inj ei2
  obtain ⟨c0, ec0⟩ := is_v (Cond.before_iff.mp (hsets _ (List.mem_of_getElem? (i := 1) rfl)))
  have SC := Sta.start ec0 (Or.inl (hsets _ (List.mem_of_getElem? (i := 0) rfl)))
  have hc0 : ¬ (c0 = (0 : Int32)) := by
    have q := not_v (Cond.before_iff.mp (hsets _ (List.mem_of_getElem? (i := 2) rfl)))
    intro e
    subst e
    rw [eq_i ec0 (Term.int_eval (0)) rfl] at q
    cases q
  have SH := Own.st_int (Cond.before_iff.mp (hsets _ (List.mem_of_getElem? (i := 12) rfl))) (Or.inl (hsets _ (List.mem_of_getElem? (i := 10) rfl)))
  obtain ⟨ca, eca⟩ := exa_v (Cond.before_iff.mp (hsets _ (List.mem_of_getElem? (i := 14) rfl)))
  have SCA := Sta.start eca (Or.inr ⟨hw _ (List.mem_of_getElem? (i := 74) rfl), (hsets _ (List.mem_of_getElem? (i := 11) rfl))⟩)
  obtain ⟨ccl, BX⟩ := Own.BX.start eca (Cond.before_iff.mp (hsets _ (List.mem_of_getElem? (i := 13) rfl))) (Cond.before_iff.mp (hsets _ (List.mem_of_getElem? (i := 15) rfl))) (Cond.before_iff.mp (hsets _ (List.mem_of_getElem? (i := 16) rfl))) (fun _ => rfl)
  obtain ⟨n, o, h1, h2, h3, _, L, rfl, ⟨⟨rfl, -⟩, N⟩, hq⟩ := c_law l hw i0 i1 i2 c0 ca ccl s.heap [] (Own.HS.nil s) SC hc0 SH SCA BX tables_1 p e ha hc hk s m _ below hf ((Spec.applies_iff_loose hf).mp happ).1 ⟨rfl, State.Warmed39.refl s, rfl⟩ trivial
  refine ⟨n, _, h1, h2, h3, hpost _ _ _ _ _ _ ⟨Cond.after_iff.mpr rfl, Cond.after_iff.mpr (eq_i res_at (Term.int_eval (1)) rfl), trivial⟩ ⟨hq.1, hq.2.1, (hq.2.2.sift fun y hy => Or.inr (N y hy)).mono (by decide) (by decide)⟩⟩
theorem main_1_1 : Claimed_1_1 := comes_1 fun _ _ _ _ _ _ h hF => ⟨h.1, hF⟩
theorem main_1_2 : Claimed_1_2 := comes_1 fun _ _ _ _ _ _ h hF => ⟨h.2.1, hF⟩
end Jvm.Pilot.@@N@@
namespace Jvm.Pilot.@@N@@
open Jvm Jvm.ClassFile Sem Op Lib Jvm.Free Jvm.Stand Jvm.Pilot.@@N@@.Jvm.D
/-! MADE BY PROGRAM (witnessworld.py) out of the Statement's table words and the real class files: 29 classes; the members and pool entries that the words name. The judged class is class 1, her method 3. -/
namespace start1
open Jvm.ClassFile
def u (s : String) : CpInfo := .utf8 (stringToUtf16 s)
/-- a pool by its gaps: so many unusable entries, then the entry; so many at the end -/
def gap : Nat → List CpInfo → List CpInfo
  | 0, r => r
  | n + 1, r => .unusable :: gap n r
def poolList (es : List (Nat × CpInfo)) (last : Nat) : List CpInfo := es.foldr (fun e r => gap e.1 (e.2 :: r)) (gap last [])
def pool (es : List (Nat × CpInfo)) (last : Nat) : Array CpInfo := ⟨poolList es last⟩
def fileOf (pool : Array CpInfo) (this : Nat) (attrs : Array Attribute := #[]) (ms : Array MethodInfo := #[]) (fl : Nat := 33) (sup : Nat := 0) (ifs : Array Nat := #[]) (fds : Array FieldInfo := #[]) : ClassFile where
  minorVersion := 0
  majorVersion := 65
  constantPool := pool
  accessFlags := fl
  thisClass := this
  superClass := sup
  interfaces := ifs
  fields := fds
  methods := ms
  attributes := attrs
def plain (name : String) (sup : Option ClassId) : Class where
  name := name
  kind := .ordinary
  loader := none
  accessFlags := 33
  super := sup
  interfaces := #[]
  cf := none
  fields := #[]
  methods := #[]
  instanceTypes := #[]
  staticTypes := #[]
  resolved := #[]
  callSites := []
  init := .initialized
  statics := none
  mirror := none

def pool0 : Array CpInfo := pool [(5, u "<init>"), (0, u "()V"), (1, .class_ 10), (1, u "java/lang/Object")] 113

def k0c0 : Code := { maxStack := 0, maxLocals := 1, code := object_method_1_code, exceptionTable := #[], attributes := #[] }
def k0m0 : Method := { name := "<init>", desc := "()V", sig := { parameters := [], returnType := none }, accessFlags := 1, code := some k0c0 }
/-- java/lang/Object -/
def k0 : Class := { plain "java/lang/Object" none with
  accessFlags := 33
  interfaces := #[]
  cf := some (fileOf pool0 8 #[] #[{ accessFlags := 1, nameIndex := 5, descriptorIndex := 6, attributes := #[] }] 33 0 #[] #[])
  fields := #[]
  methods := #[k0m0]
  instanceTypes := #[]
  staticTypes := #[]
  resolved := Array.replicate 124 none
  statics := none }

def pool1 : Array CpInfo := pool [(2, .class_ 4), (1, u "java/lang/Object"), (0, u "<init>"), (0, u "()V"), (0, .class_ 8), (0, u "java/lang/String"), (0, .methodref 7 10), (0, .nameAndType 5 11), (0, u "([C)V"), (0, .methodref 13 14), (0, .class_ 15), (0, .nameAndType 16 17), (0, u "com/example/vestwright/vestwright/NamedValues"), (0, u "name"), (0, u "(I)Ljava/lang/String;"), (0, .methodref 7 19), (0, .nameAndType 20 21), (0, u "valueOf"), (0, u "(C)Ljava/lang/String;"), (0, .methodref 7 23), (0, .nameAndType 24 25), (0, u "equals"), (0, u "(Ljava/lang/Object;)Z"), (0, .methodref 27 28), (0, .class_ 29), (0, .nameAndType 30 21), (0, u "com/example/vestwright/vestwright/NamedValuesNamePinLaw"), (0, u "fresh"), (0, .methodref 13 32), (0, .nameAndType 5 33), (0, u "(I)V"), (0, .methodref 35 36), (0, .class_ 37), (0, .nameAndType 20 38), (0, u "java/lang/Integer"), (0, u "(I)Ljava/lang/Integer;"), (0, .methodref 13 40), (0, .nameAndType 41 42), (0, u "put"), (0, u "(Ljava/lang/String;Ljava/lang/Object;)Ljava/lang/Object;"), (0, .methodref 13 44), (0, .nameAndType 45 46), (0, u "size"), (0, u "()I"), (0, .methodref 27 48), (0, .nameAndType 49 50), (0, u "at"), (0, u "(Lcom/example/vestwright/vestwright/NamedValues;II[C)Z"), (3, u "law"), (0, u "(III)Z")] 4

def k1m0 : Method := { name := "<init>", desc := "()V", sig := { parameters := [], returnType := none }, accessFlags := 1, code := none }
def k1c1 : Code := { maxStack := 3, maxLocals := 2, code := method_2_code, exceptionTable := #[], attributes := #[] }
def k1m1 : Method := { name := "fresh", desc := "(C)Ljava/lang/String;", sig := { parameters := [.char], returnType := some (.object "java/lang/String") }, accessFlags := 10, code := some k1c1 }
def k1c2 : Code := { maxStack := 3, maxLocals := 5, code := method_3_code, exceptionTable := #[], attributes := #[] }
def k1m2 : Method := { name := "at", desc := "(Lcom/example/vestwright/vestwright/NamedValues;II[C)Z", sig := { parameters := [(.object "com/example/vestwright/vestwright/NamedValues"), .int, .int, (.array .char)], returnType := some .boolean }, accessFlags := 10, code := some k1c2 }
def k1c3 : Code := { maxStack := 4, maxLocals := 16, code := code, exceptionTable := #[], attributes := #[] }
def k1m3 : Method := { name := "law", desc := "(III)Z", sig := { parameters := [.int, .int, .int], returnType := some .boolean }, accessFlags := 9, code := some k1c3 }
/-- com/example/vestwright/vestwright/NamedValuesNamePinLaw -/
def k1 : Class := { plain "com/example/vestwright/vestwright/NamedValuesNamePinLaw" (some 0) with
  accessFlags := 49
  interfaces := #[]
  cf := some (fileOf pool1 27 #[] #[{ accessFlags := 1, nameIndex := 5, descriptorIndex := 6, attributes := #[] }, { accessFlags := 10, nameIndex := 30, descriptorIndex := 21, attributes := #[] }, { accessFlags := 10, nameIndex := 49, descriptorIndex := 50, attributes := #[] }, { accessFlags := 9, nameIndex := 54, descriptorIndex := 55, attributes := #[] }] 49 2 #[] #[])
  fields := #[]
  methods := #[k1m0, k1m1, k1m2, k1m3]
  instanceTypes := #[]
  staticTypes := #[]
  resolved := Array.replicate 60 none
  statics := none }

def pool2 : Array CpInfo := pool [(1, .class_ 2), (0, u "java/io/Serializable"), (0, .class_ 4), (0, u "java/lang/Object")] 2

/-- java/io/Serializable -/
def k2 : Class := { plain "java/io/Serializable" (some 0) with
  accessFlags := 1537
  interfaces := #[]
  cf := some (fileOf pool2 1 #[] #[] 1537 3 #[] #[])
  fields := #[]
  methods := #[]
  instanceTypes := #[]
  staticTypes := #[]
  resolved := Array.replicate 7 none
  statics := none }

def pool3 : Array CpInfo := pool [(1, .class_ 2), (0, u "java/lang/Comparable"), (0, .class_ 4), (0, u "java/lang/Object")] 7

/-- java/lang/Comparable -/
def k3 : Class := { plain "java/lang/Comparable" (some 0) with
  accessFlags := 1537
  interfaces := #[]
  cf := some (fileOf pool3 1 #[] #[] 1537 3 #[] #[])
  fields := #[]
  methods := #[]
  instanceTypes := #[]
  staticTypes := #[]
  resolved := Array.replicate 12 none
  statics := none }

def pool4 : Array CpInfo := pool [(2, .class_ 4), (1, u "java/lang/CharSequence"), (42, .class_ 48), (0, u "java/lang/CharSequence$1CodePointIterator"), (10, .class_ 60), (0, u "java/lang/CharSequence$1CharIterator"), (5, .class_ 67), (0, u "java/lang/Object")] 63

/-- java/lang/CharSequence -/
def k4 : Class := { plain "java/lang/CharSequence" (some 0) with
  accessFlags := 1537
  interfaces := #[]
  cf := some (fileOf pool4 2 #[.nestMembers #[47, 59]] #[] 1537 66 #[] #[])
  fields := #[]
  methods := #[]
  instanceTypes := #[]
  staticTypes := #[]
  resolved := Array.replicate 131 none
  statics := none }

def pool5 : Array CpInfo := pool [(1, .class_ 2), (0, u "java/lang/constant/Constable"), (0, .class_ 4), (0, u "java/lang/Object")] 6

/-- java/lang/constant/Constable -/
def k5 : Class := { plain "java/lang/constant/Constable" (some 0) with
  accessFlags := 1537
  interfaces := #[]
  cf := some (fileOf pool5 1 #[] #[] 1537 3 #[] #[])
  fields := #[]
  methods := #[]
  instanceTypes := #[]
  staticTypes := #[]
  resolved := Array.replicate 11 none
  statics := none }

def pool6 : Array CpInfo := pool [(1, .class_ 2), (0, u "java/lang/constant/ConstantDesc"), (0, .class_ 4), (0, u "java/lang/Object")] 32

/-- java/lang/constant/ConstantDesc -/
def k6 : Class := { plain "java/lang/constant/ConstantDesc" (some 0) with
  accessFlags := 1537
  interfaces := #[]
  cf := some (fileOf pool6 1 #[] #[] 1537 3 #[] #[])
  fields := #[]
  methods := #[]
  instanceTypes := #[]
  staticTypes := #[]
  resolved := Array.replicate 37 none
  statics := none }

def pool7 : Array CpInfo := pool [(1, .methodref 2 3), (0, .class_ 4), (0, .nameAndType 5 6), (0, u "java/lang/Object"), (0, u "<init>"), (0, u "()V"), (2, .fieldref 10 11), (0, .class_ 12), (0, .nameAndType 13 14), (0, u "java/lang/String"), (0, u "value"), (0, u "[B"), (0, .fieldref 10 16), (0, .nameAndType 17 18), (0, u "coder"), (0, u "B"), (0, .fieldref 10 20), (0, .nameAndType 21 22), (0, u "hash"), (0, u "I"), (0, .fieldref 10 24), (0, .nameAndType 25 26), (0, u "hashIsZero"), (0, u "Z"), (0, .methodref 10 28), (0, .nameAndType 5 29), (0, u "([CIILjava/lang/Void;)V"), (8, .fieldref 10 39), (0, .nameAndType 40 26), (0, u "COMPACT_STRINGS"), (1, .class_ 44), (1, u "java/lang/StringUTF16"), (0, u "compress"), (1, .methodref 42 48), (0, .nameAndType 49 50), (0, u "coderFromArrayLen"), (0, u "([BI)B"), (2, u "toBytes"), (53, .class_ 109), (1, u "java/lang/StringLatin1"), (32, u "()Z"), (34, .methodref 42 178), (0, .nameAndType 45 179), (0, u "([CII)[B"), (29, .methodref 10 210), (0, .nameAndType 5 211), (0, u "([BB)V"), (122, u "()I"), (34, u "(C)Z"), (122, .methodref 10 493), (0, .nameAndType 494 142), (0, u "isLatin1"), (46, .methodref 107 542), (0, .nameAndType 543 544), (0, u "equals"), (0, u "([B[B)Z"), (28, u "(Ljava/lang/Object;)Z"), (1, .class_ 576), (0, u "java/lang/CharSequence"), (22, u "CASE_INSENSITIVE_ORDER"), (0, u "Ljava/util/Comparator;"), (27, .methodref 107 629), (0, .nameAndType 630 631), (0, u "hashCode"), (0, u "([B)I"), (150, u "valueOf"), (0, u "(C)Ljava/lang/String;"), (226, u "([C)V"), (4, .methodref 107 1016), (0, .nameAndType 1017 369), (0, u "canEncode"), (0, .methodref 107 1019), (0, .nameAndType 53 1020), (0, u "(C)[B"), (80, u "serialPersistentFields"), (0, u "[Ljava/io/ObjectStreamField;"), (0, .class_ 1104), (0, u "java/lang/String$CaseInsensitiveComparator"), (1, .class_ 1107), (0, u "java/io/Serializable"), (0, .class_ 1109), (0, u "java/lang/Comparable"), (0, .class_ 1111), (0, u "java/lang/constant/Constable"), (0, .class_ 1113), (0, u "java/lang/constant/ConstantDesc"), (2, u "serialVersionUID"), (0, u "J"), (3, u "REPL"), (0, u "C"), (2, u "LATIN1"), (1, u "UTF16")] 323

def k7m0 : Method := { name := "<init>", desc := "()V", sig := { parameters := [], returnType := none }, accessFlags := 1, code := none }
def k7c1 : Code := { maxStack := 5, maxLocals := 2, code := jdk_42_method_3_code, exceptionTable := #[], attributes := #[] }
def k7m1 : Method := { name := "<init>", desc := "([C)V", sig := { parameters := [(.array .char)], returnType := none }, accessFlags := 1, code := some k7c1 }
def k7c2 : Code := { maxStack := 2, maxLocals := 3, code := jdk_42_method_66_code, exceptionTable := #[], attributes := #[] }
def k7m2 : Method := { name := "equals", desc := "(Ljava/lang/Object;)Z", sig := { parameters := [(.object "java/lang/Object")], returnType := some .boolean }, accessFlags := 1, code := some k7c2 }
def k7c3 : Code := { maxStack := 2, maxLocals := 2, code := jdk_42_method_78_code, exceptionTable := #[], attributes := #[] }
def k7m3 : Method := { name := "hashCode", desc := "()I", sig := { parameters := [], returnType := some .int }, accessFlags := 1, code := some k7c3 }
def k7c4 : Code := { maxStack := 4, maxLocals := 1, code := jdk_42_method_139_code, exceptionTable := #[], attributes := #[] }
def k7m4 : Method := { name := "valueOf", desc := "(C)Ljava/lang/String;", sig := { parameters := [.char], returnType := some (.object "java/lang/String") }, accessFlags := 9, code := some k7c4 }
def k7c5 : Code := { maxStack := 4, maxLocals := 6, code := jdk_42_method_149_code, exceptionTable := #[], attributes := #[] }
def k7m5 : Method := { name := "<init>", desc := "([CIILjava/lang/Void;)V", sig := { parameters := [(.array .char), .int, .int, (.object "java/lang/Void")], returnType := none }, accessFlags := 2, code := some k7c5 }
def k7c6 : Code := { maxStack := 2, maxLocals := 3, code := jdk_42_method_151_code, exceptionTable := #[], attributes := #[] }
def k7m6 : Method := { name := "<init>", desc := "([BB)V", sig := { parameters := [(.array .byte), .byte], returnType := none }, accessFlags := 0, code := some k7c6 }
def k7c7 : Code := { maxStack := 1, maxLocals := 1, code := jdk_42_method_154_code, exceptionTable := #[], attributes := #[] }
def k7m7 : Method := { name := "isLatin1", desc := "()Z", sig := { parameters := [], returnType := some .boolean }, accessFlags := 0, code := some k7c7 }
/-- java/lang/String -/
def k7 : Class := { plain "java/lang/String" (some 0) with
  accessFlags := 49
  interfaces := #[2, 3, 4, 5, 6]
  cf := some (fileOf pool7 10 #[.nestMembers #[1103]] #[{ accessFlags := 1, nameIndex := 5, descriptorIndex := 6, attributes := #[] }, { accessFlags := 1, nameIndex := 5, descriptorIndex := 1010, attributes := #[] }, { accessFlags := 1, nameIndex := 543, descriptorIndex := 573, attributes := #[] }, { accessFlags := 1, nameIndex := 630, descriptorIndex := 334, attributes := #[] }, { accessFlags := 9, nameIndex := 782, descriptorIndex := 783, attributes := #[] }, { accessFlags := 2, nameIndex := 5, descriptorIndex := 29, attributes := #[] }, { accessFlags := 0, nameIndex := 5, descriptorIndex := 211, attributes := #[] }, { accessFlags := 0, nameIndex := 494, descriptorIndex := 142, attributes := #[] }] 49 2 #[1106, 1108, 575, 1110, 1112] #[{ accessFlags := 18, nameIndex := 13, descriptorIndex := 14, attributes := #[] }, { accessFlags := 18, nameIndex := 17, descriptorIndex := 18, attributes := #[] }, { accessFlags := 2, nameIndex := 21, descriptorIndex := 22, attributes := #[] }, { accessFlags := 2, nameIndex := 25, descriptorIndex := 26, attributes := #[] }, { accessFlags := 26, nameIndex := 1116, descriptorIndex := 1117, attributes := #[] }, { accessFlags := 24, nameIndex := 40, descriptorIndex := 26, attributes := #[] }, { accessFlags := 26, nameIndex := 1101, descriptorIndex := 1102, attributes := #[] }, { accessFlags := 26, nameIndex := 1121, descriptorIndex := 1122, attributes := #[] }, { accessFlags := 25, nameIndex := 599, descriptorIndex := 600, attributes := #[] }, { accessFlags := 24, nameIndex := 1125, descriptorIndex := 18, attributes := #[] }, { accessFlags := 24, nameIndex := 1127, descriptorIndex := 18, attributes := #[] }])
  fields := #[{ name := "value", type := (.array .byte), accessFlags := 18, slot := 0, constantValue := 0 }, { name := "coder", type := .byte, accessFlags := 18, slot := 1, constantValue := 0 }, { name := "hash", type := .int, accessFlags := 2, slot := 2, constantValue := 0 }, { name := "hashIsZero", type := .boolean, accessFlags := 2, slot := 3, constantValue := 0 }, { name := "serialVersionUID", type := .long, accessFlags := 26, slot := 0, constantValue := 0 }, { name := "COMPACT_STRINGS", type := .boolean, accessFlags := 24, slot := 1, constantValue := 0 }, { name := "serialPersistentFields", type := (.array (.object "java/io/ObjectStreamField")), accessFlags := 26, slot := 2, constantValue := 0 }, { name := "REPL", type := .char, accessFlags := 26, slot := 3, constantValue := 0 }, { name := "CASE_INSENSITIVE_ORDER", type := (.object "java/util/Comparator"), accessFlags := 25, slot := 4, constantValue := 0 }, { name := "LATIN1", type := .byte, accessFlags := 24, slot := 5, constantValue := 0 }, { name := "UTF16", type := .byte, accessFlags := 24, slot := 6, constantValue := 0 }]
  methods := #[k7m0, k7m1, k7m2, k7m3, k7m4, k7m5, k7m6, k7m7]
  instanceTypes := #[(.array .byte), .byte, .int, .boolean]
  staticTypes := #[.long, .boolean, (.array (.object "java/io/ObjectStreamField")), .char, (.object "java/util/Comparator"), .byte, .byte]
  resolved := Array.replicate 1451 none
  statics := some 0 }

def pool8 : Array CpInfo := pool [(6, .class_ 8), (1, u "java/lang/Object"), (0, u "<init>"), (0, u "()V"), (1, .class_ 14), (1, u "java/lang/StringUTF16"), (31, u "$assertionsDisabled"), (0, u "Z"), (13, u "HI_BYTE_SHIFT"), (0, u "I"), (2, u "LO_BYTE_SHIFT"), (49, .methodref 12 116), (0, .nameAndType 117 118), (0, u "compress"), (0, u "([CI[BII)I"), (3, u "([CII)[B"), (138, u "coderFromArrayLen"), (0, u "([BI)B"), (106, .class_ 371), (1, u "java/lang/StringUTF16$LinesSpliterator"), (58, u "MAX_LENGTH"), (196, .class_ 628), (0, u "java/lang/StringUTF16$CodePointsSpliterator"), (0, .class_ 630), (0, u "java/lang/StringUTF16$CharsSpliterator")] 4

def k8m0 : Method := { name := "<init>", desc := "()V", sig := { parameters := [], returnType := none }, accessFlags := 0, code := none }
def k8c1 : Code := { maxStack := 2, maxLocals := 2, code := jdk_52_method_15_code, exceptionTable := #[], attributes := #[] }
def k8m1 : Method := { name := "coderFromArrayLen", desc := "([BI)B", sig := { parameters := [(.array .byte), .int], returnType := some .byte }, accessFlags := 8, code := some k8c1 }
def k8c2 : Code := { maxStack := 5, maxLocals := 6, code := jdk_52_method_16_code, exceptionTable := #[], attributes := #[] }
def k8m2 : Method := { name := "compress", desc := "([CII)[B", sig := { parameters := [(.array .char), .int, .int], returnType := some (.array .byte) }, accessFlags := 9, code := some k8c2 }
def k8c3 : Code := { maxStack := 3, maxLocals := 7, code := jdk_52_method_21_code, exceptionTable := #[], attributes := #[] }
def k8m3 : Method := { name := "compress", desc := "([CI[BII)I", sig := { parameters := [(.array .char), .int, (.array .byte), .int, .int], returnType := some .int }, accessFlags := 9, code := some k8c3 }
/-- java/lang/StringUTF16 -/
def k8 : Class := { plain "java/lang/StringUTF16" (some 0) with
  accessFlags := 48
  interfaces := #[]
  cf := some (fileOf pool8 12 #[.nestMembers #[627, 629, 369]] #[{ accessFlags := 0, nameIndex := 9, descriptorIndex := 10, attributes := #[] }, { accessFlags := 8, nameIndex := 261, descriptorIndex := 262, attributes := #[] }, { accessFlags := 9, nameIndex := 117, descriptorIndex := 122, attributes := #[] }, { accessFlags := 9, nameIndex := 117, descriptorIndex := 118, attributes := #[] }] 48 6 #[] #[{ accessFlags := 26, nameIndex := 61, descriptorIndex := 62, attributes := #[] }, { accessFlags := 26, nameIndex := 65, descriptorIndex := 62, attributes := #[] }, { accessFlags := 24, nameIndex := 430, descriptorIndex := 62, attributes := #[] }, { accessFlags := 4120, nameIndex := 46, descriptorIndex := 47, attributes := #[] }])
  fields := #[{ name := "HI_BYTE_SHIFT", type := .int, accessFlags := 26, slot := 0, constantValue := 0 }, { name := "LO_BYTE_SHIFT", type := .int, accessFlags := 26, slot := 1, constantValue := 0 }, { name := "MAX_LENGTH", type := .int, accessFlags := 24, slot := 2, constantValue := 0 }, { name := "$assertionsDisabled", type := .boolean, accessFlags := 4120, slot := 3, constantValue := 0 }]
  methods := #[k8m0, k8m1, k8m2, k8m3]
  instanceTypes := #[]
  staticTypes := #[.int, .int, .int, .boolean]
  resolved := Array.replicate 635 none
  statics := none }

def pool9 : Array CpInfo := pool [(2, .class_ 4), (1, u "java/util/Map"), (31, .class_ 37), (0, u "java/util/Map$Entry"), (55, .class_ 94), (0, u "java/lang/Object")] 168

/-- java/util/Map -/
def k9 : Class := { plain "java/util/Map" (some 0) with
  accessFlags := 1537
  interfaces := #[]
  cf := some (fileOf pool9 2 #[.nestMembers #[36]] #[] 1537 93 #[] #[])
  fields := #[]
  methods := #[]
  instanceTypes := #[]
  staticTypes := #[]
  resolved := Array.replicate 263 none
  statics := none }

def pool10 : Array CpInfo := pool [(1, .methodref 2 3), (0, .class_ 4), (0, .nameAndType 5 6), (0, u "java/lang/Object"), (0, u "<init>"), (0, u "()V"), (1, .class_ 10), (1, u "java/util/AbstractMap"), (42, .class_ 54), (0, u "java/util/Map"), (9, u "keySet"), (0, u "Ljava/util/Set;"), (0, .class_ 67), (0, u "java/util/AbstractMap$1"), (5, u "values"), (0, u "Ljava/util/Collection;"), (0, .class_ 76), (0, u "java/util/AbstractMap$2"), (104, .class_ 182), (0, u "java/util/AbstractMap$ViewCollection"), (0, .class_ 184), (0, u "java/util/AbstractMap$SimpleImmutableEntry"), (0, .class_ 186), (0, u "java/util/AbstractMap$SimpleEntry"), (0, .class_ 188), (0, u "java/util/AbstractMap$2$1"), (0, .class_ 190), (0, u "java/util/AbstractMap$1$1")] 5

def k10c0 : Code := { maxStack := 1, maxLocals := 1, code := jdk_71_method_1_code, exceptionTable := #[], attributes := #[] }
def k10m0 : Method := { name := "<init>", desc := "()V", sig := { parameters := [], returnType := none }, accessFlags := 4, code := some k10c0 }
/-- java/util/AbstractMap -/
def k10 : Class := { plain "java/util/AbstractMap" (some 0) with
  accessFlags := 1057
  interfaces := #[9]
  cf := some (fileOf pool10 8 #[.nestMembers #[181, 183, 185, 75, 187, 66, 189]] #[{ accessFlags := 4, nameIndex := 5, descriptorIndex := 6, attributes := #[] }] 1057 2 #[53] #[{ accessFlags := 128, nameIndex := 64, descriptorIndex := 65, attributes := #[] }, { accessFlags := 128, nameIndex := 73, descriptorIndex := 74, attributes := #[] }])
  fields := #[{ name := "keySet", type := (.object "java/util/Set"), accessFlags := 128, slot := 0, constantValue := 0 }, { name := "values", type := (.object "java/util/Collection"), accessFlags := 128, slot := 1, constantValue := 0 }]
  methods := #[k10m0]
  instanceTypes := #[(.object "java/util/Set"), (.object "java/util/Collection")]
  staticTypes := #[]
  resolved := Array.replicate 196 none
  statics := none }

def pool11 : Array CpInfo := pool [(1, .methodref 2 3), (0, .class_ 4), (0, .nameAndType 5 6), (0, u "java/util/AbstractMap"), (0, u "<init>"), (0, u "()V"), (0, .methodref 8 9), (0, .class_ 10), (0, .nameAndType 11 12), (0, u "java/lang/Math"), (0, u "max"), (0, u "(II)I"), (0, .methodref 14 15), (0, .class_ 16), (0, .nameAndType 17 18), (0, u "java/lang/Integer"), (0, u "highestOneBit"), (0, u "(I)I"), (0, .class_ 20), (0, u "java/lang/String"), (0, .fieldref 22 23), (0, .class_ 24), (0, .nameAndType 25 26), (0, u "com/example/vestwright/vestwright/NamedValues"), (0, u "names"), (0, u "[Ljava/lang/String;"), (0, .class_ 28), (0, u "java/lang/Object"), (0, .fieldref 22 30), (0, .nameAndType 31 32), (0, u "held"), (0, u "[Ljava/lang/Object;"), (0, .fieldref 22 34), (0, .nameAndType 35 36), (0, u "order"), (0, u "[I"), (4, .methodref 19 42), (0, .nameAndType 43 44), (0, u "hashCode"), (0, u "()I"), (0, .methodref 19 46), (0, .nameAndType 47 48), (0, u "equals"), (0, u "(Ljava/lang/Object;)Z"), (4, .fieldref 22 54), (0, .nameAndType 55 56), (0, u "size"), (0, u "I"), (0, .methodref 22 58), (0, .nameAndType 59 6), (0, u "grow"), (6, .class_ 67), (0, u "com/example/vestwright/vestwright/NamedValues$1"), (3, .methodref 22 72), (0, .nameAndType 73 74), (0, u "put"), (0, u "(Ljava/lang/String;Ljava/lang/Object;)Ljava/lang/Object;"), (0, u "(I)V"), (6, u "name"), (0, u "(I)Ljava/lang/String;"), (14, .class_ 99), (0, u "com/example/vestwright/vestwright/NamedValues$1$1")] 6

def k11c0 : Code := { maxStack := 3, maxLocals := 3, code := prog_12_method_1_code, exceptionTable := #[], attributes := #[] }
def k11m0 : Method := { name := "<init>", desc := "(I)V", sig := { parameters := [.int], returnType := none }, accessFlags := 0, code := some k11c0 }
def k11c1 : Code := { maxStack := 5, maxLocals := 6, code := prog_12_method_5_code, exceptionTable := #[], attributes := #[] }
def k11m1 : Method := { name := "put", desc := "(Ljava/lang/String;Ljava/lang/Object;)Ljava/lang/Object;", sig := { parameters := [(.object "java/lang/String"), (.object "java/lang/Object")], returnType := some (.object "java/lang/Object") }, accessFlags := 1, code := some k11c1 }
def k11c2 : Code := { maxStack := 1, maxLocals := 1, code := prog_12_method_7_code, exceptionTable := #[], attributes := #[] }
def k11m2 : Method := { name := "size", desc := "()I", sig := { parameters := [], returnType := some .int }, accessFlags := 1, code := some k11c2 }
def k11c3 : Code := { maxStack := 3, maxLocals := 2, code := prog_12_method_8_code, exceptionTable := #[], attributes := #[] }
def k11m3 : Method := { name := "name", desc := "(I)Ljava/lang/String;", sig := { parameters := [.int], returnType := some (.object "java/lang/String") }, accessFlags := 0, code := some k11c3 }
def k11c4 : Code := { maxStack := 5, maxLocals := 6, code := prog_12_method_11_code, exceptionTable := #[], attributes := #[] }
def k11m4 : Method := { name := "grow", desc := "()V", sig := { parameters := [], returnType := none }, accessFlags := 2, code := some k11c4 }
/-- com/example/vestwright/vestwright/NamedValues -/
def k11 : Class := { plain "com/example/vestwright/vestwright/NamedValues" (some 10) with
  accessFlags := 48
  interfaces := #[]
  cf := some (fileOf pool11 22 #[.nestMembers #[66, 98]] #[{ accessFlags := 0, nameIndex := 5, descriptorIndex := 75, attributes := #[] }, { accessFlags := 1, nameIndex := 73, descriptorIndex := 74, attributes := #[] }, { accessFlags := 1, nameIndex := 55, descriptorIndex := 44, attributes := #[] }, { accessFlags := 0, nameIndex := 82, descriptorIndex := 83, attributes := #[] }, { accessFlags := 2, nameIndex := 59, descriptorIndex := 6, attributes := #[] }] 48 2 #[] #[{ accessFlags := 2, nameIndex := 25, descriptorIndex := 26, attributes := #[] }, { accessFlags := 2, nameIndex := 31, descriptorIndex := 32, attributes := #[] }, { accessFlags := 2, nameIndex := 35, descriptorIndex := 36, attributes := #[] }, { accessFlags := 2, nameIndex := 55, descriptorIndex := 56, attributes := #[] }])
  fields := #[{ name := "names", type := (.array (.object "java/lang/String")), accessFlags := 2, slot := 2, constantValue := 0 }, { name := "held", type := (.array (.object "java/lang/Object")), accessFlags := 2, slot := 3, constantValue := 0 }, { name := "order", type := (.array .int), accessFlags := 2, slot := 4, constantValue := 0 }, { name := "size", type := .int, accessFlags := 2, slot := 5, constantValue := 0 }]
  methods := #[k11m0, k11m1, k11m2, k11m3, k11m4]
  instanceTypes := #[(.object "java/util/Set"), (.object "java/util/Collection"), (.array (.object "java/lang/String")), (.array (.object "java/lang/Object")), (.array .int), .int]
  staticTypes := #[]
  resolved := Array.replicate 106 none
  statics := none }

def pool12 : Array CpInfo := pool [(1, .class_ 2), (0, u "java/lang/Math"), (1, .class_ 6), (1, u "java/lang/Object"), (0, u "<init>"), (0, u "()V"), (89, .class_ 100), (1, u "java/lang/Math$RandomNumberGeneratorHolder"), (71, u "negativeZeroFloatBits"), (0, u "J"), (2, u "negativeZeroDoubleBits"), (21, u "max"), (46, u "$assertionsDisabled"), (0, u "Z"), (88, u "(II)I"), (2, u "twoToTheDoubleScaleDown"), (0, u "D"), (4, u "twoToTheDoubleScaleUp"), (9, u "E"), (3, u "PI"), (2, u "TAU"), (2, u "DEGREES_TO_RADIANS"), (0, u "RADIANS_TO_DEGREES")] 94

def k12m0 : Method := { name := "<init>", desc := "()V", sig := { parameters := [], returnType := none }, accessFlags := 2, code := none }
def k12c1 : Code := { maxStack := 2, maxLocals := 2, code := jdk_29_method_65_code, exceptionTable := #[], attributes := #[] }
def k12m1 : Method := { name := "max", desc := "(II)I", sig := { parameters := [.int, .int], returnType := some .int }, accessFlags := 9, code := some k12c1 }
/-- java/lang/Math -/
def k12 : Class := { plain "java/lang/Math" (some 0) with
  accessFlags := 49
  interfaces := #[]
  cf := some (fileOf pool12 1 #[.nestMembers #[98]] #[{ accessFlags := 2, nameIndex := 7, descriptorIndex := 8, attributes := #[] }, { accessFlags := 9, nameIndex := 198, descriptorIndex := 335, attributes := #[] }] 49 4 #[] #[{ accessFlags := 25, nameIndex := 354, descriptorIndex := 339, attributes := #[] }, { accessFlags := 25, nameIndex := 358, descriptorIndex := 339, attributes := #[] }, { accessFlags := 25, nameIndex := 361, descriptorIndex := 339, attributes := #[] }, { accessFlags := 26, nameIndex := 364, descriptorIndex := 339, attributes := #[] }, { accessFlags := 26, nameIndex := 365, descriptorIndex := 339, attributes := #[] }, { accessFlags := 26, nameIndex := 172, descriptorIndex := 173, attributes := #[] }, { accessFlags := 26, nameIndex := 176, descriptorIndex := 173, attributes := #[] }, { accessFlags := 8, nameIndex := 344, descriptorIndex := 339, attributes := #[] }, { accessFlags := 8, nameIndex := 338, descriptorIndex := 339, attributes := #[] }, { accessFlags := 4120, nameIndex := 245, descriptorIndex := 246, attributes := #[] }])
  fields := #[{ name := "E", type := .double, accessFlags := 25, slot := 0, constantValue := 0 }, { name := "PI", type := .double, accessFlags := 25, slot := 1, constantValue := 0 }, { name := "TAU", type := .double, accessFlags := 25, slot := 2, constantValue := 0 }, { name := "DEGREES_TO_RADIANS", type := .double, accessFlags := 26, slot := 3, constantValue := 0 }, { name := "RADIANS_TO_DEGREES", type := .double, accessFlags := 26, slot := 4, constantValue := 0 }, { name := "negativeZeroFloatBits", type := .long, accessFlags := 26, slot := 5, constantValue := 0 }, { name := "negativeZeroDoubleBits", type := .long, accessFlags := 26, slot := 6, constantValue := 0 }, { name := "twoToTheDoubleScaleUp", type := .double, accessFlags := 8, slot := 7, constantValue := 0 }, { name := "twoToTheDoubleScaleDown", type := .double, accessFlags := 8, slot := 8, constantValue := 0 }, { name := "$assertionsDisabled", type := .boolean, accessFlags := 4120, slot := 9, constantValue := 0 }]
  methods := #[k12m0, k12m1]
  instanceTypes := #[]
  staticTypes := #[.double, .double, .double, .double, .double, .long, .long, .double, .double, .boolean]
  resolved := Array.replicate 460 none
  statics := none }

def pool13 : Array CpInfo := pool [(2, .class_ 4), (1, u "java/lang/Object"), (0, u "<init>"), (0, u "()V"), (1, .class_ 10), (1, u "java/lang/Number"), (2, .class_ 14), (0, u "java/io/Serializable"), (0, u "serialVersionUID"), (0, u "J")] 20

def k13m0 : Method := { name := "<init>", desc := "()V", sig := { parameters := [], returnType := none }, accessFlags := 1, code := none }
/-- java/lang/Number -/
def k13 : Class := { plain "java/lang/Number" (some 0) with
  accessFlags := 1057
  interfaces := #[2]
  cf := some (fileOf pool13 8 #[] #[{ accessFlags := 1, nameIndex := 5, descriptorIndex := 6, attributes := #[] }] 1057 2 #[13] #[{ accessFlags := 26, nameIndex := 15, descriptorIndex := 16, attributes := #[] }])
  fields := #[{ name := "serialVersionUID", type := .long, accessFlags := 26, slot := 0, constantValue := 0 }]
  methods := #[k13m0]
  instanceTypes := #[]
  staticTypes := #[.long]
  resolved := Array.replicate 37 none
  statics := none }

def pool14 : Array CpInfo := pool [(1, .class_ 2), (0, u "java/lang/Integer"), (16, u "digits"), (0, u "[C"), (30, .methodref 1 52), (0, .nameAndType 53 54), (0, u "numberOfLeadingZeros"), (0, u "(I)I"), (30, u "DigitOnes"), (0, u "[B"), (2, u "DigitTens"), (37, .integer 2147483648), (59, u "valueOf"), (0, u "(I)Ljava/lang/Integer;"), (0, .class_ 190), (0, u "java/lang/Integer$IntegerCache"), (0, .fieldref 189 192), (0, .nameAndType 193 194), (0, u "high"), (0, u "I"), (0, .fieldref 189 196), (0, .nameAndType 197 198), (0, u "cache"), (0, u "[Ljava/lang/Integer;"), (4, .class_ 204), (0, u "java/lang/Number"), (2, u "value"), (56, .integer 65536), (37, u "TYPE"), (0, u "Ljava/lang/Class;"), (0, .class_ 305), (0, u "java/lang/Comparable"), (0, .class_ 307), (0, u "java/lang/constant/Constable"), (0, .class_ 309), (0, u "java/lang/constant/ConstantDesc"), (0, u "MIN_VALUE"), (1, u "MAX_VALUE"), (3, u "SIZE"), (1, u "BYTES"), (1, u "serialVersionUID"), (0, u "J"), (81, u "highestOneBit")] 49

def k14c0 : Code := { maxStack := 3, maxLocals := 1, code := jdk_33_method_22_code, exceptionTable := #[], attributes := #[] }
def k14m0 : Method := { name := "valueOf", desc := "(I)Ljava/lang/Integer;", sig := { parameters := [.int], returnType := some (.object "java/lang/Integer") }, accessFlags := 9, code := some k14c0 }
def k14c1 : Code := { maxStack := 3, maxLocals := 1, code := jdk_33_method_45_code, exceptionTable := #[], attributes := #[] }
def k14m1 : Method := { name := "highestOneBit", desc := "(I)I", sig := { parameters := [.int], returnType := some .int }, accessFlags := 9, code := some k14c1 }
def k14c2 : Code := { maxStack := 3, maxLocals := 2, code := jdk_33_method_47_code, exceptionTable := #[], attributes := #[] }
def k14m2 : Method := { name := "numberOfLeadingZeros", desc := "(I)I", sig := { parameters := [.int], returnType := some .int }, accessFlags := 9, code := some k14c2 }
/-- java/lang/Integer -/
def k14 : Class := { plain "java/lang/Integer" (some 13) with
  accessFlags := 49
  interfaces := #[3, 5, 6]
  cf := some (fileOf pool14 1 #[.nestMembers #[189]] #[{ accessFlags := 9, nameIndex := 187, descriptorIndex := 188, attributes := #[] }, { accessFlags := 9, nameIndex := 403, descriptorIndex := 54, attributes := #[] }, { accessFlags := 9, nameIndex := 53, descriptorIndex := 54, attributes := #[] }] 49 203 #[304, 306, 308] #[{ accessFlags := 25, nameIndex := 310, descriptorIndex := 194, attributes := #[] }, { accessFlags := 25, nameIndex := 312, descriptorIndex := 194, attributes := #[] }, { accessFlags := 25, nameIndex := 302, descriptorIndex := 303, attributes := #[] }, { accessFlags := 24, nameIndex := 19, descriptorIndex := 20, attributes := #[] }, { accessFlags := 24, nameIndex := 89, descriptorIndex := 86, attributes := #[] }, { accessFlags := 24, nameIndex := 85, descriptorIndex := 86, attributes := #[] }, { accessFlags := 18, nameIndex := 207, descriptorIndex := 194, attributes := #[] }, { accessFlags := 25, nameIndex := 316, descriptorIndex := 194, attributes := #[] }, { accessFlags := 25, nameIndex := 318, descriptorIndex := 194, attributes := #[] }, { accessFlags := 26, nameIndex := 320, descriptorIndex := 321, attributes := #[] }])
  fields := #[{ name := "MIN_VALUE", type := .int, accessFlags := 25, slot := 0, constantValue := 0 }, { name := "MAX_VALUE", type := .int, accessFlags := 25, slot := 1, constantValue := 0 }, { name := "TYPE", type := (.object "java/lang/Class"), accessFlags := 25, slot := 2, constantValue := 0 }, { name := "digits", type := (.array .char), accessFlags := 24, slot := 3, constantValue := 0 }, { name := "DigitTens", type := (.array .byte), accessFlags := 24, slot := 4, constantValue := 0 }, { name := "DigitOnes", type := (.array .byte), accessFlags := 24, slot := 5, constantValue := 0 }, { name := "value", type := .int, accessFlags := 18, slot := 0, constantValue := 0 }, { name := "SIZE", type := .int, accessFlags := 25, slot := 6, constantValue := 0 }, { name := "BYTES", type := .int, accessFlags := 25, slot := 7, constantValue := 0 }, { name := "serialVersionUID", type := .long, accessFlags := 26, slot := 8, constantValue := 0 }]
  methods := #[k14m0, k14m1, k14m2]
  instanceTypes := #[.int]
  staticTypes := #[.int, .int, (.object "java/lang/Class"), (.array .char), (.array .byte), (.array .byte), .int, .int, .long]
  resolved := Array.replicate 453 none
  statics := none }

def pool15 : Array CpInfo := pool [(2, .class_ 4), (1, u "java/lang/Object"), (0, u "<init>"), (0, u "()V"), (0, .class_ 8), (0, u "java/lang/Integer"), (7, .class_ 18), (1, u "java/lang/Integer$IntegerCache"), (0, u "$assertionsDisabled"), (0, u "Z"), (26, u "high"), (0, u "I"), (8, u "archivedCache"), (0, u "[Ljava/lang/Integer;"), (12, u "cache"), (0, u "low")] 27

def k15m0 : Method := { name := "<init>", desc := "()V", sig := { parameters := [], returnType := none }, accessFlags := 2, code := none }
/-- java/lang/Integer$IntegerCache -/
def k15 : Class := { plain "java/lang/Integer$IntegerCache" (some 0) with
  accessFlags := 48
  interfaces := #[]
  cf := some (fileOf pool15 16 #[.nestHost 7] #[{ accessFlags := 2, nameIndex := 5, descriptorIndex := 6, attributes := #[] }] 48 2 #[] #[{ accessFlags := 24, nameIndex := 72, descriptorIndex := 48, attributes := #[] }, { accessFlags := 24, nameIndex := 47, descriptorIndex := 48, attributes := #[] }, { accessFlags := 24, nameIndex := 71, descriptorIndex := 58, attributes := #[] }, { accessFlags := 8, nameIndex := 57, descriptorIndex := 58, attributes := #[] }, { accessFlags := 4120, nameIndex := 19, descriptorIndex := 20, attributes := #[] }])
  fields := #[{ name := "low", type := .int, accessFlags := 24, slot := 0, constantValue := 0 }, { name := "high", type := .int, accessFlags := 24, slot := 1, constantValue := 0 }, { name := "cache", type := (.array (.object "java/lang/Integer")), accessFlags := 24, slot := 2, constantValue := 0 }, { name := "archivedCache", type := (.array (.object "java/lang/Integer")), accessFlags := 8, slot := 3, constantValue := 0 }, { name := "$assertionsDisabled", type := .boolean, accessFlags := 4120, slot := 4, constantValue := 0 }]
  methods := #[k15m0]
  instanceTypes := #[]
  staticTypes := #[.int, .int, (.array (.object "java/lang/Integer")), (.array (.object "java/lang/Integer")), .boolean]
  resolved := Array.replicate 100 none
  statics := some 1 }

def pool16 : Array CpInfo := pool [(4, .class_ 6), (1, u "java/lang/Object"), (0, u "<init>"), (0, u "()V"), (5, .class_ 16), (1, u "java/lang/StringLatin1"), (40, u "([B)I"), (32, u "canEncode"), (14, u "(C)Z"), (15, u "$assertionsDisabled"), (0, u "Z"), (98, .class_ 223), (1, u "java/lang/StringLatin1$LinesSpliterator"), (57, u "equals"), (0, u "([B[B)Z"), (15, u "hashCode"), (81, u "toBytes"), (1, u "(C)[B"), (7, .class_ 391), (0, u "java/lang/StringLatin1$CharsSpliterator")] 3

def k16m0 : Method := { name := "<init>", desc := "()V", sig := { parameters := [], returnType := none }, accessFlags := 0, code := none }
def k16c1 : Code := { maxStack := 2, maxLocals := 1, code := jdk_43_method_3_code, exceptionTable := #[], attributes := #[] }
def k16m1 : Method := { name := "canEncode", desc := "(C)Z", sig := { parameters := [.char], returnType := some .boolean }, accessFlags := 9, code := some k16c1 }
def k16c2 : Code := { maxStack := 3, maxLocals := 3, code := jdk_43_method_13_code, exceptionTable := #[], attributes := #[] }
def k16m2 : Method := { name := "equals", desc := "([B[B)Z", sig := { parameters := [(.array .byte), (.array .byte)], returnType := some .boolean }, accessFlags := 9, code := some k16c2 }
def k16c3 : Code := { maxStack := 5, maxLocals := 1, code := jdk_43_method_21_code, exceptionTable := #[], attributes := #[] }
def k16m3 : Method := { name := "hashCode", desc := "([B)I", sig := { parameters := [(.array .byte)], returnType := some .int }, accessFlags := 9, code := some k16c3 }
def k16c4 : Code := { maxStack := 4, maxLocals := 1, code := jdk_43_method_46_code, exceptionTable := #[], attributes := #[] }
def k16m4 : Method := { name := "toBytes", desc := "(C)[B", sig := { parameters := [.char], returnType := some (.array .byte) }, accessFlags := 9, code := some k16c4 }
/-- java/lang/StringLatin1 -/
def k16 : Class := { plain "java/lang/StringLatin1" (some 0) with
  accessFlags := 48
  interfaces := #[]
  cf := some (fileOf pool16 14 #[.nestMembers #[390, 221]] #[{ accessFlags := 0, nameIndex := 7, descriptorIndex := 8, attributes := #[] }, { accessFlags := 9, nameIndex := 90, descriptorIndex := 105, attributes := #[] }, { accessFlags := 9, nameIndex := 281, descriptorIndex := 282, attributes := #[] }, { accessFlags := 9, nameIndex := 298, descriptorIndex := 57, attributes := #[] }, { accessFlags := 9, nameIndex := 380, descriptorIndex := 382, attributes := #[] }] 48 4 #[] #[{ accessFlags := 4120, nameIndex := 121, descriptorIndex := 122, attributes := #[] }])
  fields := #[{ name := "$assertionsDisabled", type := .boolean, accessFlags := 4120, slot := 0, constantValue := 0 }]
  methods := #[k16m0, k16m1, k16m2, k16m3, k16m4]
  instanceTypes := #[]
  staticTypes := #[.boolean]
  resolved := Array.replicate 395 none
  statics := none }

def pool17 : Array CpInfo := pool [(2, .class_ 4), (1, u "java/lang/Object"), (0, u "<init>"), (0, u "()V"), (17, .class_ 26), (1, u "jdk/internal/util/Preconditions"), (28, .class_ 56), (0, u "jdk/internal/util/Preconditions$4"), (57, .class_ 115), (0, u "jdk/internal/util/Preconditions$1"), (7, u "SIOOBE_FORMATTER"), (0, u "Ljava/util/function/BiFunction;"), (0, .class_ 126), (0, u "jdk/internal/util/Preconditions$2"), (3, u "AIOOBE_FORMATTER"), (0, .class_ 132), (0, u "jdk/internal/util/Preconditions$3"), (3, u "IOOBE_FORMATTER")] 57

def k17m0 : Method := { name := "<init>", desc := "()V", sig := { parameters := [], returnType := none }, accessFlags := 1, code := none }
/-- jdk/internal/util/Preconditions -/
def k17 : Class := { plain "jdk/internal/util/Preconditions" (some 0) with
  accessFlags := 33
  interfaces := #[]
  cf := some (fileOf pool17 24 #[.nestMembers #[55, 131, 125, 114]] #[{ accessFlags := 1, nameIndex := 5, descriptorIndex := 6, attributes := #[] }] 33 2 #[] #[{ accessFlags := 25, nameIndex := 123, descriptorIndex := 124, attributes := #[] }, { accessFlags := 25, nameIndex := 130, descriptorIndex := 124, attributes := #[] }, { accessFlags := 25, nameIndex := 136, descriptorIndex := 124, attributes := #[] }])
  fields := #[{ name := "SIOOBE_FORMATTER", type := (.object "java/util/function/BiFunction"), accessFlags := 25, slot := 0, constantValue := 0 }, { name := "AIOOBE_FORMATTER", type := (.object "java/util/function/BiFunction"), accessFlags := 25, slot := 1, constantValue := 0 }, { name := "IOOBE_FORMATTER", type := (.object "java/util/function/BiFunction"), accessFlags := 25, slot := 2, constantValue := 0 }]
  methods := #[k17m0]
  instanceTypes := #[]
  staticTypes := #[(.object "java/util/function/BiFunction"), (.object "java/util/function/BiFunction"), (.object "java/util/function/BiFunction")]
  resolved := Array.replicate 194 none
  statics := some 2 }

def pool18 : Array CpInfo := pool [(9, u "<init>"), (6, .class_ 18), (1, u "java/lang/Object"), (0, u "()V"), (1, .class_ 23), (1, u "jdk/internal/util/ArraysSupport"), (0, u "LOG2_ARRAY_LONG_INDEX_SCALE"), (0, u "I"), (2, u "U"), (0, u "Ljdk/internal/misc/Unsafe;"), (8, u "BIG_ENDIAN"), (0, u "Z"), (8, u "LOG2_BYTE_BIT_SIZE"), (4, u "LOG2_ARRAY_INT_INDEX_SCALE"), (54, u "JLA"), (0, u "Ljdk/internal/access/JavaLangAccess;"), (11, u "LOG2_ARRAY_BOOLEAN_INDEX_SCALE"), (9, u "LOG2_ARRAY_BYTE_INDEX_SCALE"), (5, u "LOG2_ARRAY_CHAR_INDEX_SCALE"), (5, u "LOG2_ARRAY_SHORT_INDEX_SCALE"), (18, u "LOG2_ARRAY_FLOAT_INDEX_SCALE"), (24, u "LOG2_ARRAY_DOUBLE_INDEX_SCALE"), (89, u "T_BOOLEAN"), (2, u "T_CHAR"), (1, u "T_FLOAT"), (1, u "T_DOUBLE"), (1, u "T_BYTE"), (1, u "T_SHORT"), (1, u "T_INT"), (1, u "T_LONG"), (1, u "SOFT_MAX_ARRAY_LENGTH")] 83

def k18m0 : Method := { name := "<init>", desc := "()V", sig := { parameters := [], returnType := none }, accessFlags := 2, code := none }
/-- jdk/internal/util/ArraysSupport -/
def k18 : Class := { plain "jdk/internal/util/ArraysSupport" (some 0) with
  accessFlags := 33
  interfaces := #[]
  cf := some (fileOf pool18 21 #[] #[{ accessFlags := 2, nameIndex := 9, descriptorIndex := 19, attributes := #[] }] 33 16 #[] #[{ accessFlags := 24, nameIndex := 28, descriptorIndex := 29, attributes := #[] }, { accessFlags := 26, nameIndex := 38, descriptorIndex := 39, attributes := #[] }, { accessFlags := 25, nameIndex := 121, descriptorIndex := 25, attributes := #[] }, { accessFlags := 25, nameIndex := 131, descriptorIndex := 25, attributes := #[] }, { accessFlags := 25, nameIndex := 137, descriptorIndex := 25, attributes := #[] }, { accessFlags := 25, nameIndex := 143, descriptorIndex := 25, attributes := #[] }, { accessFlags := 25, nameIndex := 53, descriptorIndex := 25, attributes := #[] }, { accessFlags := 25, nameIndex := 24, descriptorIndex := 25, attributes := #[] }, { accessFlags := 25, nameIndex := 162, descriptorIndex := 25, attributes := #[] }, { accessFlags := 25, nameIndex := 187, descriptorIndex := 25, attributes := #[] }, { accessFlags := 26, nameIndex := 48, descriptorIndex := 25, attributes := #[] }, { accessFlags := 25, nameIndex := 277, descriptorIndex := 25, attributes := #[] }, { accessFlags := 25, nameIndex := 280, descriptorIndex := 25, attributes := #[] }, { accessFlags := 25, nameIndex := 282, descriptorIndex := 25, attributes := #[] }, { accessFlags := 25, nameIndex := 284, descriptorIndex := 25, attributes := #[] }, { accessFlags := 25, nameIndex := 286, descriptorIndex := 25, attributes := #[] }, { accessFlags := 25, nameIndex := 288, descriptorIndex := 25, attributes := #[] }, { accessFlags := 25, nameIndex := 290, descriptorIndex := 25, attributes := #[] }, { accessFlags := 25, nameIndex := 292, descriptorIndex := 25, attributes := #[] }, { accessFlags := 26, nameIndex := 108, descriptorIndex := 109, attributes := #[] }, { accessFlags := 25, nameIndex := 294, descriptorIndex := 25, attributes := #[] }])
  fields := #[{ name := "U", type := (.object "jdk/internal/misc/Unsafe"), accessFlags := 24, slot := 0, constantValue := 0 }, { name := "BIG_ENDIAN", type := .boolean, accessFlags := 26, slot := 1, constantValue := 0 }, { name := "LOG2_ARRAY_BOOLEAN_INDEX_SCALE", type := .int, accessFlags := 25, slot := 2, constantValue := 0 }, { name := "LOG2_ARRAY_BYTE_INDEX_SCALE", type := .int, accessFlags := 25, slot := 3, constantValue := 0 }, { name := "LOG2_ARRAY_CHAR_INDEX_SCALE", type := .int, accessFlags := 25, slot := 4, constantValue := 0 }, { name := "LOG2_ARRAY_SHORT_INDEX_SCALE", type := .int, accessFlags := 25, slot := 5, constantValue := 0 }, { name := "LOG2_ARRAY_INT_INDEX_SCALE", type := .int, accessFlags := 25, slot := 6, constantValue := 0 }, { name := "LOG2_ARRAY_LONG_INDEX_SCALE", type := .int, accessFlags := 25, slot := 7, constantValue := 0 }, { name := "LOG2_ARRAY_FLOAT_INDEX_SCALE", type := .int, accessFlags := 25, slot := 8, constantValue := 0 }, { name := "LOG2_ARRAY_DOUBLE_INDEX_SCALE", type := .int, accessFlags := 25, slot := 9, constantValue := 0 }, { name := "LOG2_BYTE_BIT_SIZE", type := .int, accessFlags := 26, slot := 10, constantValue := 0 }, { name := "T_BOOLEAN", type := .int, accessFlags := 25, slot := 11, constantValue := 0 }, { name := "T_CHAR", type := .int, accessFlags := 25, slot := 12, constantValue := 0 }, { name := "T_FLOAT", type := .int, accessFlags := 25, slot := 13, constantValue := 0 }, { name := "T_DOUBLE", type := .int, accessFlags := 25, slot := 14, constantValue := 0 }, { name := "T_BYTE", type := .int, accessFlags := 25, slot := 15, constantValue := 0 }, { name := "T_SHORT", type := .int, accessFlags := 25, slot := 16, constantValue := 0 }, { name := "T_INT", type := .int, accessFlags := 25, slot := 17, constantValue := 0 }, { name := "T_LONG", type := .int, accessFlags := 25, slot := 18, constantValue := 0 }, { name := "JLA", type := (.object "jdk/internal/access/JavaLangAccess"), accessFlags := 26, slot := 19, constantValue := 0 }, { name := "SOFT_MAX_ARRAY_LENGTH", type := .int, accessFlags := 25, slot := 20, constantValue := 0 }]
  methods := #[k18m0]
  instanceTypes := #[]
  staticTypes := #[(.object "jdk/internal/misc/Unsafe"), .boolean, .int, .int, .int, .int, .int, .int, .int, .int, .int, .int, .int, .int, .int, .int, .int, .int, .int, (.object "jdk/internal/access/JavaLangAccess"), .int]
  resolved := Array.replicate 378 none
  statics := none }

def pool19 : Array CpInfo := pool [(1, u "java/lang/Cloneable"), (0, .class_ 1), (0, u "java/lang/Object"), (0, .class_ 3)] 3

/-- java/lang/Cloneable -/
def k19 : Class := { plain "java/lang/Cloneable" (some 0) with
  accessFlags := 1537
  interfaces := #[]
  cf := some (fileOf pool19 2 #[] #[] 1537 4 #[] #[])
  fields := #[]
  methods := #[]
  instanceTypes := #[]
  staticTypes := #[]
  resolved := Array.replicate 8 none
  statics := none }

/-- the primitive byte -/
def k20 : Class := { plain "byte" none with kind := .primitive 'B', accessFlags := 0x411 }
/-- [B -/
def k21 : Class := { plain "[B" (some 0) with kind := .array 20 .byte, interfaces := #[19, 2], accessFlags := 1041 }

/-- the primitive char -/
def k22 : Class := { plain "char" none with kind := .primitive 'C', accessFlags := 0x411 }
/-- [C -/
def k23 : Class := { plain "[C" (some 0) with kind := .array 22 .char, interfaces := #[19, 2], accessFlags := 1041 }

/-- the primitive int -/
def k24 : Class := { plain "int" none with kind := .primitive 'I', accessFlags := 0x411 }
/-- [I -/
def k25 : Class := { plain "[I" (some 0) with kind := .array 24 .int, interfaces := #[19, 2], accessFlags := 1041 }

/-- [Ljava/lang/Integer; -/
def k26 : Class := { plain "[Ljava/lang/Integer;" (some 0) with kind := .array 14 (.object "java/lang/Integer"), interfaces := #[19, 2], accessFlags := 1041 }

/-- [Ljava/lang/Object; -/
def k27 : Class := { plain "[Ljava/lang/Object;" (some 0) with kind := .array 0 (.object "java/lang/Object"), interfaces := #[19, 2], accessFlags := 1041 }

/-- [Ljava/lang/String; -/
def k28 : Class := { plain "[Ljava/lang/String;" (some 0) with kind := .array 7 (.object "java/lang/String"), interfaces := #[19, 2], accessFlags := 1041 }

def heap : Heap := #[{ cls := 7, slots := #[.long 0, .int 1, .null, .int 0, .null, .int 0, .int 0], vm := .statics 7 },
  { cls := 15, slots := #[.int 0, .int 127, .ref 3, .null, .int 0], vm := .statics 15 },
  { cls := 17, slots := #[.null, .null, .null], vm := .statics 17 },
  { cls := 26, slots := #[.ref 4, .ref 5, .ref 6, .ref 7, .ref 8, .ref 9, .ref 10, .ref 11, .ref 12, .ref 13, .ref 14, .ref 15, .ref 16, .ref 17, .ref 18, .ref 19, .ref 20, .ref 21, .ref 22, .ref 23, .ref 24, .ref 25, .ref 26, .ref 27, .ref 28, .ref 29, .ref 30, .ref 31, .ref 32, .ref 33, .ref 34, .ref 35, .ref 36, .ref 37, .ref 38, .ref 39, .ref 40, .ref 41, .ref 42, .ref 43, .ref 44, .ref 45, .ref 46, .ref 47, .ref 48, .ref 49, .ref 50, .ref 51, .ref 52, .ref 53, .ref 54, .ref 55, .ref 56, .ref 57, .ref 58, .ref 59, .ref 60, .ref 61, .ref 62, .ref 63, .ref 64, .ref 65, .ref 66, .ref 67, .ref 68, .ref 69, .ref 70, .ref 71, .ref 72, .ref 73, .ref 74, .ref 75, .ref 76, .ref 77, .ref 78, .ref 79, .ref 80, .ref 81, .ref 82, .ref 83, .ref 84, .ref 85, .ref 86, .ref 87, .ref 88, .ref 89, .ref 90, .ref 91, .ref 92, .ref 93, .ref 94, .ref 95, .ref 96, .ref 97, .ref 98, .ref 99, .ref 100, .ref 101, .ref 102, .ref 103, .ref 104, .ref 105, .ref 106, .ref 107, .ref 108, .ref 109, .ref 110, .ref 111, .ref 112, .ref 113, .ref 114, .ref 115, .ref 116, .ref 117, .ref 118, .ref 119, .ref 120, .ref 121, .ref 122, .ref 123, .ref 124, .ref 125, .ref 126, .ref 127, .ref 128, .ref 129, .ref 130, .ref 131, .ref 132, .ref 133, .ref 134, .ref 135, .ref 136, .ref 137, .ref 138, .ref 139, .ref 140, .ref 141, .ref 142, .ref 143, .ref 144, .ref 145, .ref 146, .ref 147, .ref 148, .ref 149, .ref 150, .ref 151, .ref 152, .ref 153, .ref 154, .ref 155, .ref 156, .ref 157, .ref 158, .ref 159, .ref 160, .ref 161, .ref 162, .ref 163, .ref 164, .ref 165, .ref 166, .ref 167, .ref 168, .ref 169, .ref 170, .ref 171, .ref 172, .ref 173, .ref 174, .ref 175, .ref 176, .ref 177, .ref 178, .ref 179, .ref 180, .ref 181, .ref 182, .ref 183, .ref 184, .ref 185, .ref 186, .ref 187, .ref 188, .ref 189, .ref 190, .ref 191, .ref 192, .ref 193, .ref 194, .ref 195, .ref 196, .ref 197, .ref 198, .ref 199, .ref 200, .ref 201, .ref 202, .ref 203, .ref 204, .ref 205, .ref 206, .ref 207, .ref 208, .ref 209, .ref 210, .ref 211, .ref 212, .ref 213, .ref 214, .ref 215, .ref 216, .ref 217, .ref 218, .ref 219, .ref 220, .ref 221, .ref 222, .ref 223, .ref 224, .ref 225, .ref 226, .ref 227, .ref 228, .ref 229, .ref 230, .ref 231, .ref 232, .ref 233, .ref 234, .ref 235, .ref 236, .ref 237, .ref 238, .ref 239, .ref 240, .ref 241, .ref 242, .ref 243, .ref 244, .ref 245, .ref 246, .ref 247, .ref 248, .ref 249, .ref 250, .ref 251, .ref 252, .ref 253, .ref 254, .ref 255, .ref 256, .ref 257, .ref 258, .ref 259], vm := .none },
  { cls := 14, slots := #[.int (-128)], vm := .none },
  { cls := 14, slots := #[.int (-127)], vm := .none },
  { cls := 14, slots := #[.int (-126)], vm := .none },
  { cls := 14, slots := #[.int (-125)], vm := .none },
  { cls := 14, slots := #[.int (-124)], vm := .none },
  { cls := 14, slots := #[.int (-123)], vm := .none },
  { cls := 14, slots := #[.int (-122)], vm := .none },
  { cls := 14, slots := #[.int (-121)], vm := .none },
  { cls := 14, slots := #[.int (-120)], vm := .none },
  { cls := 14, slots := #[.int (-119)], vm := .none },
  { cls := 14, slots := #[.int (-118)], vm := .none },
  { cls := 14, slots := #[.int (-117)], vm := .none },
  { cls := 14, slots := #[.int (-116)], vm := .none },
  { cls := 14, slots := #[.int (-115)], vm := .none },
  { cls := 14, slots := #[.int (-114)], vm := .none },
  { cls := 14, slots := #[.int (-113)], vm := .none },
  { cls := 14, slots := #[.int (-112)], vm := .none },
  { cls := 14, slots := #[.int (-111)], vm := .none },
  { cls := 14, slots := #[.int (-110)], vm := .none },
  { cls := 14, slots := #[.int (-109)], vm := .none },
  { cls := 14, slots := #[.int (-108)], vm := .none },
  { cls := 14, slots := #[.int (-107)], vm := .none },
  { cls := 14, slots := #[.int (-106)], vm := .none },
  { cls := 14, slots := #[.int (-105)], vm := .none },
  { cls := 14, slots := #[.int (-104)], vm := .none },
  { cls := 14, slots := #[.int (-103)], vm := .none },
  { cls := 14, slots := #[.int (-102)], vm := .none },
  { cls := 14, slots := #[.int (-101)], vm := .none },
  { cls := 14, slots := #[.int (-100)], vm := .none },
  { cls := 14, slots := #[.int (-99)], vm := .none },
  { cls := 14, slots := #[.int (-98)], vm := .none },
  { cls := 14, slots := #[.int (-97)], vm := .none },
  { cls := 14, slots := #[.int (-96)], vm := .none },
  { cls := 14, slots := #[.int (-95)], vm := .none },
  { cls := 14, slots := #[.int (-94)], vm := .none },
  { cls := 14, slots := #[.int (-93)], vm := .none },
  { cls := 14, slots := #[.int (-92)], vm := .none },
  { cls := 14, slots := #[.int (-91)], vm := .none },
  { cls := 14, slots := #[.int (-90)], vm := .none },
  { cls := 14, slots := #[.int (-89)], vm := .none },
  { cls := 14, slots := #[.int (-88)], vm := .none },
  { cls := 14, slots := #[.int (-87)], vm := .none },
  { cls := 14, slots := #[.int (-86)], vm := .none },
  { cls := 14, slots := #[.int (-85)], vm := .none },
  { cls := 14, slots := #[.int (-84)], vm := .none },
  { cls := 14, slots := #[.int (-83)], vm := .none },
  { cls := 14, slots := #[.int (-82)], vm := .none },
  { cls := 14, slots := #[.int (-81)], vm := .none },
  { cls := 14, slots := #[.int (-80)], vm := .none },
  { cls := 14, slots := #[.int (-79)], vm := .none },
  { cls := 14, slots := #[.int (-78)], vm := .none },
  { cls := 14, slots := #[.int (-77)], vm := .none },
  { cls := 14, slots := #[.int (-76)], vm := .none },
  { cls := 14, slots := #[.int (-75)], vm := .none },
  { cls := 14, slots := #[.int (-74)], vm := .none },
  { cls := 14, slots := #[.int (-73)], vm := .none },
  { cls := 14, slots := #[.int (-72)], vm := .none },
  { cls := 14, slots := #[.int (-71)], vm := .none },
  { cls := 14, slots := #[.int (-70)], vm := .none },
  { cls := 14, slots := #[.int (-69)], vm := .none },
  { cls := 14, slots := #[.int (-68)], vm := .none },
  { cls := 14, slots := #[.int (-67)], vm := .none },
  { cls := 14, slots := #[.int (-66)], vm := .none },
  { cls := 14, slots := #[.int (-65)], vm := .none },
  { cls := 14, slots := #[.int (-64)], vm := .none },
  { cls := 14, slots := #[.int (-63)], vm := .none },
  { cls := 14, slots := #[.int (-62)], vm := .none },
  { cls := 14, slots := #[.int (-61)], vm := .none },
  { cls := 14, slots := #[.int (-60)], vm := .none },
  { cls := 14, slots := #[.int (-59)], vm := .none },
  { cls := 14, slots := #[.int (-58)], vm := .none },
  { cls := 14, slots := #[.int (-57)], vm := .none },
  { cls := 14, slots := #[.int (-56)], vm := .none },
  { cls := 14, slots := #[.int (-55)], vm := .none },
  { cls := 14, slots := #[.int (-54)], vm := .none },
  { cls := 14, slots := #[.int (-53)], vm := .none },
  { cls := 14, slots := #[.int (-52)], vm := .none },
  { cls := 14, slots := #[.int (-51)], vm := .none },
  { cls := 14, slots := #[.int (-50)], vm := .none },
  { cls := 14, slots := #[.int (-49)], vm := .none },
  { cls := 14, slots := #[.int (-48)], vm := .none },
  { cls := 14, slots := #[.int (-47)], vm := .none },
  { cls := 14, slots := #[.int (-46)], vm := .none },
  { cls := 14, slots := #[.int (-45)], vm := .none },
  { cls := 14, slots := #[.int (-44)], vm := .none },
  { cls := 14, slots := #[.int (-43)], vm := .none },
  { cls := 14, slots := #[.int (-42)], vm := .none },
  { cls := 14, slots := #[.int (-41)], vm := .none },
  { cls := 14, slots := #[.int (-40)], vm := .none },
  { cls := 14, slots := #[.int (-39)], vm := .none },
  { cls := 14, slots := #[.int (-38)], vm := .none },
  { cls := 14, slots := #[.int (-37)], vm := .none },
  { cls := 14, slots := #[.int (-36)], vm := .none },
  { cls := 14, slots := #[.int (-35)], vm := .none },
  { cls := 14, slots := #[.int (-34)], vm := .none },
  { cls := 14, slots := #[.int (-33)], vm := .none },
  { cls := 14, slots := #[.int (-32)], vm := .none },
  { cls := 14, slots := #[.int (-31)], vm := .none },
  { cls := 14, slots := #[.int (-30)], vm := .none },
  { cls := 14, slots := #[.int (-29)], vm := .none },
  { cls := 14, slots := #[.int (-28)], vm := .none },
  { cls := 14, slots := #[.int (-27)], vm := .none },
  { cls := 14, slots := #[.int (-26)], vm := .none },
  { cls := 14, slots := #[.int (-25)], vm := .none },
  { cls := 14, slots := #[.int (-24)], vm := .none },
  { cls := 14, slots := #[.int (-23)], vm := .none },
  { cls := 14, slots := #[.int (-22)], vm := .none },
  { cls := 14, slots := #[.int (-21)], vm := .none },
  { cls := 14, slots := #[.int (-20)], vm := .none },
  { cls := 14, slots := #[.int (-19)], vm := .none },
  { cls := 14, slots := #[.int (-18)], vm := .none },
  { cls := 14, slots := #[.int (-17)], vm := .none },
  { cls := 14, slots := #[.int (-16)], vm := .none },
  { cls := 14, slots := #[.int (-15)], vm := .none },
  { cls := 14, slots := #[.int (-14)], vm := .none },
  { cls := 14, slots := #[.int (-13)], vm := .none },
  { cls := 14, slots := #[.int (-12)], vm := .none },
  { cls := 14, slots := #[.int (-11)], vm := .none },
  { cls := 14, slots := #[.int (-10)], vm := .none },
  { cls := 14, slots := #[.int (-9)], vm := .none },
  { cls := 14, slots := #[.int (-8)], vm := .none },
  { cls := 14, slots := #[.int (-7)], vm := .none },
  { cls := 14, slots := #[.int (-6)], vm := .none },
  { cls := 14, slots := #[.int (-5)], vm := .none },
  { cls := 14, slots := #[.int (-4)], vm := .none },
  { cls := 14, slots := #[.int (-3)], vm := .none },
  { cls := 14, slots := #[.int (-2)], vm := .none },
  { cls := 14, slots := #[.int (-1)], vm := .none },
  { cls := 14, slots := #[.int (0)], vm := .none },
  { cls := 14, slots := #[.int (1)], vm := .none },
  { cls := 14, slots := #[.int (2)], vm := .none },
  { cls := 14, slots := #[.int (3)], vm := .none },
  { cls := 14, slots := #[.int (4)], vm := .none },
  { cls := 14, slots := #[.int (5)], vm := .none },
  { cls := 14, slots := #[.int (6)], vm := .none },
  { cls := 14, slots := #[.int (7)], vm := .none },
  { cls := 14, slots := #[.int (8)], vm := .none },
  { cls := 14, slots := #[.int (9)], vm := .none },
  { cls := 14, slots := #[.int (10)], vm := .none },
  { cls := 14, slots := #[.int (11)], vm := .none },
  { cls := 14, slots := #[.int (12)], vm := .none },
  { cls := 14, slots := #[.int (13)], vm := .none },
  { cls := 14, slots := #[.int (14)], vm := .none },
  { cls := 14, slots := #[.int (15)], vm := .none },
  { cls := 14, slots := #[.int (16)], vm := .none },
  { cls := 14, slots := #[.int (17)], vm := .none },
  { cls := 14, slots := #[.int (18)], vm := .none },
  { cls := 14, slots := #[.int (19)], vm := .none },
  { cls := 14, slots := #[.int (20)], vm := .none },
  { cls := 14, slots := #[.int (21)], vm := .none },
  { cls := 14, slots := #[.int (22)], vm := .none },
  { cls := 14, slots := #[.int (23)], vm := .none },
  { cls := 14, slots := #[.int (24)], vm := .none },
  { cls := 14, slots := #[.int (25)], vm := .none },
  { cls := 14, slots := #[.int (26)], vm := .none },
  { cls := 14, slots := #[.int (27)], vm := .none },
  { cls := 14, slots := #[.int (28)], vm := .none },
  { cls := 14, slots := #[.int (29)], vm := .none },
  { cls := 14, slots := #[.int (30)], vm := .none },
  { cls := 14, slots := #[.int (31)], vm := .none },
  { cls := 14, slots := #[.int (32)], vm := .none },
  { cls := 14, slots := #[.int (33)], vm := .none },
  { cls := 14, slots := #[.int (34)], vm := .none },
  { cls := 14, slots := #[.int (35)], vm := .none },
  { cls := 14, slots := #[.int (36)], vm := .none },
  { cls := 14, slots := #[.int (37)], vm := .none },
  { cls := 14, slots := #[.int (38)], vm := .none },
  { cls := 14, slots := #[.int (39)], vm := .none },
  { cls := 14, slots := #[.int (40)], vm := .none },
  { cls := 14, slots := #[.int (41)], vm := .none },
  { cls := 14, slots := #[.int (42)], vm := .none },
  { cls := 14, slots := #[.int (43)], vm := .none },
  { cls := 14, slots := #[.int (44)], vm := .none },
  { cls := 14, slots := #[.int (45)], vm := .none },
  { cls := 14, slots := #[.int (46)], vm := .none },
  { cls := 14, slots := #[.int (47)], vm := .none },
  { cls := 14, slots := #[.int (48)], vm := .none },
  { cls := 14, slots := #[.int (49)], vm := .none },
  { cls := 14, slots := #[.int (50)], vm := .none },
  { cls := 14, slots := #[.int (51)], vm := .none },
  { cls := 14, slots := #[.int (52)], vm := .none },
  { cls := 14, slots := #[.int (53)], vm := .none },
  { cls := 14, slots := #[.int (54)], vm := .none },
  { cls := 14, slots := #[.int (55)], vm := .none },
  { cls := 14, slots := #[.int (56)], vm := .none },
  { cls := 14, slots := #[.int (57)], vm := .none },
  { cls := 14, slots := #[.int (58)], vm := .none },
  { cls := 14, slots := #[.int (59)], vm := .none },
  { cls := 14, slots := #[.int (60)], vm := .none },
  { cls := 14, slots := #[.int (61)], vm := .none },
  { cls := 14, slots := #[.int (62)], vm := .none },
  { cls := 14, slots := #[.int (63)], vm := .none },
  { cls := 14, slots := #[.int (64)], vm := .none },
  { cls := 14, slots := #[.int (65)], vm := .none },
  { cls := 14, slots := #[.int (66)], vm := .none },
  { cls := 14, slots := #[.int (67)], vm := .none },
  { cls := 14, slots := #[.int (68)], vm := .none },
  { cls := 14, slots := #[.int (69)], vm := .none },
  { cls := 14, slots := #[.int (70)], vm := .none },
  { cls := 14, slots := #[.int (71)], vm := .none },
  { cls := 14, slots := #[.int (72)], vm := .none },
  { cls := 14, slots := #[.int (73)], vm := .none },
  { cls := 14, slots := #[.int (74)], vm := .none },
  { cls := 14, slots := #[.int (75)], vm := .none },
  { cls := 14, slots := #[.int (76)], vm := .none },
  { cls := 14, slots := #[.int (77)], vm := .none },
  { cls := 14, slots := #[.int (78)], vm := .none },
  { cls := 14, slots := #[.int (79)], vm := .none },
  { cls := 14, slots := #[.int (80)], vm := .none },
  { cls := 14, slots := #[.int (81)], vm := .none },
  { cls := 14, slots := #[.int (82)], vm := .none },
  { cls := 14, slots := #[.int (83)], vm := .none },
  { cls := 14, slots := #[.int (84)], vm := .none },
  { cls := 14, slots := #[.int (85)], vm := .none },
  { cls := 14, slots := #[.int (86)], vm := .none },
  { cls := 14, slots := #[.int (87)], vm := .none },
  { cls := 14, slots := #[.int (88)], vm := .none },
  { cls := 14, slots := #[.int (89)], vm := .none },
  { cls := 14, slots := #[.int (90)], vm := .none },
  { cls := 14, slots := #[.int (91)], vm := .none },
  { cls := 14, slots := #[.int (92)], vm := .none },
  { cls := 14, slots := #[.int (93)], vm := .none },
  { cls := 14, slots := #[.int (94)], vm := .none },
  { cls := 14, slots := #[.int (95)], vm := .none },
  { cls := 14, slots := #[.int (96)], vm := .none },
  { cls := 14, slots := #[.int (97)], vm := .none },
  { cls := 14, slots := #[.int (98)], vm := .none },
  { cls := 14, slots := #[.int (99)], vm := .none },
  { cls := 14, slots := #[.int (100)], vm := .none },
  { cls := 14, slots := #[.int (101)], vm := .none },
  { cls := 14, slots := #[.int (102)], vm := .none },
  { cls := 14, slots := #[.int (103)], vm := .none },
  { cls := 14, slots := #[.int (104)], vm := .none },
  { cls := 14, slots := #[.int (105)], vm := .none },
  { cls := 14, slots := #[.int (106)], vm := .none },
  { cls := 14, slots := #[.int (107)], vm := .none },
  { cls := 14, slots := #[.int (108)], vm := .none },
  { cls := 14, slots := #[.int (109)], vm := .none },
  { cls := 14, slots := #[.int (110)], vm := .none },
  { cls := 14, slots := #[.int (111)], vm := .none },
  { cls := 14, slots := #[.int (112)], vm := .none },
  { cls := 14, slots := #[.int (113)], vm := .none },
  { cls := 14, slots := #[.int (114)], vm := .none },
  { cls := 14, slots := #[.int (115)], vm := .none },
  { cls := 14, slots := #[.int (116)], vm := .none },
  { cls := 14, slots := #[.int (117)], vm := .none },
  { cls := 14, slots := #[.int (118)], vm := .none },
  { cls := 14, slots := #[.int (119)], vm := .none },
  { cls := 14, slots := #[.int (120)], vm := .none },
  { cls := 14, slots := #[.int (121)], vm := .none },
  { cls := 14, slots := #[.int (122)], vm := .none },
  { cls := 14, slots := #[.int (123)], vm := .none },
  { cls := 14, slots := #[.int (124)], vm := .none },
  { cls := 14, slots := #[.int (125)], vm := .none },
  { cls := 14, slots := #[.int (126)], vm := .none },
  { cls := 14, slots := #[.int (127)], vm := .none }]
def classes : Array Class := #[k0, k1, k2, k3, k4, k5, k6, k7, k8, k9, k10, k11, k12, k13, k14, k15, k16, k17, k18, k19, k20, k21, k22, k23, k24, k25, k26, k27, k28]
def interned : List (Array UInt16 × Addr) := []
def slotsUsed : Nat := 527
def theMethod : MethodId := ⟨1, 3⟩
def args0 : Array Value := #[.int 5, .int 6, .int 0]
def aboutOver (below : List Frame) : State where
  vm := { classes := classes, interned := interned.toArray }
  heap := heap
  slotsUsed := slotsUsed
  threads := #[{ frames := .invoking theMethod args0 :: below }]
def below0 : List Frame := [.native { method := ⟨0, 0⟩, args := #[] }]
def about1 : State := aboutOver below0
def p0 : Program := .bare "" "" ""
def e0 : Env := launch0.env 0 0 0
theorem w_frames : about1.frames = Frame.invoking theMethod args0 :: below0 := rfl
set_option maxRecDepth 65536 in
theorem w_args : argsFit about1.vm theMethod args0 = true := by decide +kernel
set_option maxRecDepth 65536 in
theorem w_heap : heapFits about1 = true := by decide +kernel
set_option maxRecDepth 65536 in
theorem w_runnable : about1.curStatus? = some .runnable := by decide +kernel
set_option maxRecDepth 65536 in
theorem w_alone : about1.alone = true := by decide +kernel
set_option maxRecDepth 65536 in
theorem w_named : about1.methodNamed? x = some theMethod := by decide +kernel
set_option maxRecDepth 65536 in
theorem w_hears : about1.hears theMethod below0 = true := by decide +kernel
set_option maxRecDepth 65536 in
theorem w_ripe : about1.ripe theMethod args0 below0 = true := by decide +kernel
theorem w_running : about1.status = .running := rfl
set_option maxRecDepth 65536 in
theorem w_room : about1.hasRoom e0.platform room_1 = true :=
  launch0.hasRoom_least _ room_1 (by decide +kernel) (by decide +kernel) (by decide +kernel) (by decide +kernel) (by decide +kernel) (by decide +kernel)
theorem allAtoms_all (ts : List Jvm.Cond) (a : Array Jvm.Value) (st : Jvm.State) : (allAtoms ts).before a st = ts.all (fun c => c.before a st) := by
  induction ts with
  | nil => rfl
  | cons c t ih =>
    show (Jvm.Cond.and c (allAtoms t)).before a st = _
    rw [Jvm.Cond.before_and, ih, List.all_cons]
def words1 : List Jvm.Cond := Jvm.Cond.code x code maxLocals ret :: tables_1
/-- a 'code' word, met by the world's own term for the bytes: nothing is compared byte by byte -/
theorem code_word {y : MethodName} {bytes : ByteArray} {mx : Nat} {rt : Option FieldType} {a : Array Value} {s : State} {m : MethodId} {meth : Method} {c : Code} (h1 : s.methodNamed? y = some m) (h2 : s.vm.method? m = some meth) (h3 : meth.code = some c) (h4 : c.code = bytes)
    (h5 : (c.maxLocals == mx && c.exceptionTable.isEmpty && decide (c.maxStack ≤ mostOperands) && decide (meth.sig.returnType = rt) && !meth.locks && decide (parseMethodDescriptor y.desc = some meth.sig)) = true) : (Jvm.Cond.code y bytes mx rt).before a s = true := by
  simp only [Bool.and_eq_true, beq_iff_eq, Bool.not_eq_true', decide_eq_true_eq] at h5
  obtain ⟨⟨⟨⟨⟨g1, g2⟩, g3⟩, g4⟩, g5⟩, g6⟩ := h5
  simp [Cond.before, Cond.holds, Cond.value, h1, h2, h3, h4, g1, g2, g3, g4, g5, g6]
def isCode : Jvm.Cond → Bool
  | .code _ _ _ _ => true
  | _ => false
theorem all_split {L : List Jvm.Cond} {P : Jvm.Cond → Bool} (h1 : L.all (fun c => isCode c || P c) = true) (h2 : ∀ c ∈ L.filter isCode, P c = true) : L.all P = true := by
  refine List.all_eq_true.mpr fun c hc => ?_
  have h := List.all_eq_true.mp h1 c hc
  rcases Bool.eq_false_or_eq_true (isCode c) with hi | hi
  · exact h2 c (List.mem_filter.mpr ⟨hc, hi⟩)
  · simpa [hi] using h
set_option maxRecDepth 65536 in
theorem w_c0 : (Jvm.Cond.code x code maxLocals ret).before args0 about1 = true := code_word (m := ⟨1, 3⟩) (meth := k1m3) (c := k1c3) (by decide +kernel) rfl rfl rfl (by decide +kernel)
set_option maxRecDepth 65536 in
theorem w_c1 : (Jvm.Cond.code ({ cls := "com/example/vestwright/vestwright/NamedValuesNamePinLaw", name := "fresh", desc := "(C)Ljava/lang/String;" } : Jvm.MethodName) method_2_code (2 : Nat) (Option.some (Jvm.ClassFile.FieldType.object "java/lang/String"))).before args0 about1 = true := code_word (m := ⟨1, 1⟩) (meth := k1m1) (c := k1c1) (by decide +kernel) rfl rfl rfl (by decide +kernel)
set_option maxRecDepth 65536 in
theorem w_c2 : (Jvm.Cond.code ({ cls := "java/lang/String", name := "<init>", desc := "([C)V" } : Jvm.MethodName) jdk_42_method_3_code (2 : Nat) (Option.none : Option Jvm.ClassFile.FieldType)).before args0 about1 = true := code_word (m := ⟨7, 1⟩) (meth := k7m1) (c := k7c1) (by decide +kernel) rfl rfl rfl (by decide +kernel)
set_option maxRecDepth 65536 in
theorem w_c3 : (Jvm.Cond.code ({ cls := "java/lang/String", name := "<init>", desc := "([CIILjava/lang/Void;)V" } : Jvm.MethodName) jdk_42_method_149_code (6 : Nat) (Option.none : Option Jvm.ClassFile.FieldType)).before args0 about1 = true := code_word (m := ⟨7, 5⟩) (meth := k7m5) (c := k7c5) (by decide +kernel) rfl rfl rfl (by decide +kernel)
set_option maxRecDepth 65536 in
theorem w_c4 : (Jvm.Cond.code ({ cls := "java/lang/Object", name := "<init>", desc := "()V" } : Jvm.MethodName) object_method_1_code (1 : Nat) (Option.none : Option Jvm.ClassFile.FieldType)).before args0 about1 = true := code_word (m := ⟨0, 0⟩) (meth := k0m0) (c := k0c0) (by decide +kernel) rfl rfl rfl (by decide +kernel)
set_option maxRecDepth 65536 in
theorem w_c5 : (Jvm.Cond.code ({ cls := "java/lang/StringUTF16", name := "compress", desc := "([CII)[B" } : Jvm.MethodName) jdk_52_method_16_code (6 : Nat) (Option.some (Jvm.ClassFile.FieldType.array Jvm.ClassFile.FieldType.byte))).before args0 about1 = true := code_word (m := ⟨8, 2⟩) (meth := k8m2) (c := k8c2) (by decide +kernel) rfl rfl rfl (by decide +kernel)
set_option maxRecDepth 65536 in
theorem w_c6 : (Jvm.Cond.code ({ cls := "java/lang/StringUTF16", name := "compress", desc := "([CI[BII)I" } : Jvm.MethodName) jdk_52_method_21_code (7 : Nat) (Option.some Jvm.ClassFile.FieldType.int)).before args0 about1 = true := code_word (m := ⟨8, 3⟩) (meth := k8m3) (c := k8c3) (by decide +kernel) rfl rfl rfl (by decide +kernel)
set_option maxRecDepth 65536 in
theorem w_c7 : (Jvm.Cond.code ({ cls := "java/lang/StringUTF16", name := "coderFromArrayLen", desc := "([BI)B" } : Jvm.MethodName) jdk_52_method_15_code (2 : Nat) (Option.some Jvm.ClassFile.FieldType.byte)).before args0 about1 = true := code_word (m := ⟨8, 1⟩) (meth := k8m1) (c := k8c1) (by decide +kernel) rfl rfl rfl (by decide +kernel)
set_option maxRecDepth 65536 in
theorem w_c8 : (Jvm.Cond.code ({ cls := "com/example/vestwright/vestwright/NamedValues", name := "<init>", desc := "(I)V" } : Jvm.MethodName) prog_12_method_1_code (3 : Nat) (Option.none : Option Jvm.ClassFile.FieldType)).before args0 about1 = true := code_word (m := ⟨11, 0⟩) (meth := k11m0) (c := k11c0) (by decide +kernel) rfl rfl rfl (by decide +kernel)
set_option maxRecDepth 65536 in
theorem w_c9 : (Jvm.Cond.code ({ cls := "java/util/AbstractMap", name := "<init>", desc := "()V" } : Jvm.MethodName) jdk_71_method_1_code (1 : Nat) (Option.none : Option Jvm.ClassFile.FieldType)).before args0 about1 = true := code_word (m := ⟨10, 0⟩) (meth := k10m0) (c := k10c0) (by decide +kernel) rfl rfl rfl (by decide +kernel)
set_option maxRecDepth 65536 in
theorem w_c10 : (Jvm.Cond.code ({ cls := "java/lang/Math", name := "max", desc := "(II)I" } : Jvm.MethodName) jdk_29_method_65_code (2 : Nat) (Option.some Jvm.ClassFile.FieldType.int)).before args0 about1 = true := code_word (m := ⟨12, 1⟩) (meth := k12m1) (c := k12c1) (by decide +kernel) rfl rfl rfl (by decide +kernel)
set_option maxRecDepth 65536 in
theorem w_c11 : (Jvm.Cond.code ({ cls := "java/lang/Integer", name := "highestOneBit", desc := "(I)I" } : Jvm.MethodName) jdk_33_method_45_code (1 : Nat) (Option.some Jvm.ClassFile.FieldType.int)).before args0 about1 = true := code_word (m := ⟨14, 1⟩) (meth := k14m1) (c := k14c1) (by decide +kernel) rfl rfl rfl (by decide +kernel)
set_option maxRecDepth 65536 in
theorem w_c12 : (Jvm.Cond.code ({ cls := "java/lang/Integer", name := "numberOfLeadingZeros", desc := "(I)I" } : Jvm.MethodName) jdk_33_method_47_code (2 : Nat) (Option.some Jvm.ClassFile.FieldType.int)).before args0 about1 = true := code_word (m := ⟨14, 2⟩) (meth := k14m2) (c := k14c2) (by decide +kernel) rfl rfl rfl (by decide +kernel)
set_option maxRecDepth 65536 in
theorem w_c13 : (Jvm.Cond.code ({ cls := "java/lang/Integer", name := "valueOf", desc := "(I)Ljava/lang/Integer;" } : Jvm.MethodName) jdk_33_method_22_code (1 : Nat) (Option.some (Jvm.ClassFile.FieldType.object "java/lang/Integer"))).before args0 about1 = true := code_word (m := ⟨14, 0⟩) (meth := k14m0) (c := k14c0) (by decide +kernel) rfl rfl rfl (by decide +kernel)
set_option maxRecDepth 65536 in
theorem w_c14 : (Jvm.Cond.code ({ cls := "com/example/vestwright/vestwright/NamedValues", name := "put", desc := "(Ljava/lang/String;Ljava/lang/Object;)Ljava/lang/Object;" } : Jvm.MethodName) prog_12_method_5_code (6 : Nat) (Option.some (Jvm.ClassFile.FieldType.object "java/lang/Object"))).before args0 about1 = true := code_word (m := ⟨11, 1⟩) (meth := k11m1) (c := k11c1) (by decide +kernel) rfl rfl rfl (by decide +kernel)
set_option maxRecDepth 65536 in
theorem w_c15 : (Jvm.Cond.code ({ cls := "java/lang/String", name := "hashCode", desc := "()I" } : Jvm.MethodName) jdk_42_method_78_code (2 : Nat) (Option.some Jvm.ClassFile.FieldType.int)).before args0 about1 = true := code_word (m := ⟨7, 3⟩) (meth := k7m3) (c := k7c3) (by decide +kernel) rfl rfl rfl (by decide +kernel)
set_option maxRecDepth 65536 in
theorem w_c16 : (Jvm.Cond.code ({ cls := "java/lang/String", name := "isLatin1", desc := "()Z" } : Jvm.MethodName) jdk_42_method_154_code (1 : Nat) (Option.some Jvm.ClassFile.FieldType.boolean)).before args0 about1 = true := code_word (m := ⟨7, 7⟩) (meth := k7m7) (c := k7c7) (by decide +kernel) rfl rfl rfl (by decide +kernel)
set_option maxRecDepth 65536 in
theorem w_c17 : (Jvm.Cond.code ({ cls := "java/lang/StringLatin1", name := "hashCode", desc := "([B)I" } : Jvm.MethodName) jdk_43_method_21_code (1 : Nat) (Option.some Jvm.ClassFile.FieldType.int)).before args0 about1 = true := code_word (m := ⟨16, 3⟩) (meth := k16m3) (c := k16c3) (by decide +kernel) rfl rfl rfl (by decide +kernel)
set_option maxRecDepth 65536 in
theorem w_c18 : (Jvm.Cond.code ({ cls := "java/lang/String", name := "equals", desc := "(Ljava/lang/Object;)Z" } : Jvm.MethodName) jdk_42_method_66_code (3 : Nat) (Option.some Jvm.ClassFile.FieldType.boolean)).before args0 about1 = true := code_word (m := ⟨7, 2⟩) (meth := k7m2) (c := k7c2) (by decide +kernel) rfl rfl rfl (by decide +kernel)
set_option maxRecDepth 65536 in
theorem w_c19 : (Jvm.Cond.code ({ cls := "java/lang/StringLatin1", name := "equals", desc := "([B[B)Z" } : Jvm.MethodName) jdk_43_method_13_code (3 : Nat) (Option.some Jvm.ClassFile.FieldType.boolean)).before args0 about1 = true := code_word (m := ⟨16, 2⟩) (meth := k16m2) (c := k16c2) (by decide +kernel) rfl rfl rfl (by decide +kernel)
set_option maxRecDepth 65536 in
theorem w_c20 : (Jvm.Cond.code ({ cls := "com/example/vestwright/vestwright/NamedValues", name := "size", desc := "()I" } : Jvm.MethodName) prog_12_method_7_code (1 : Nat) (Option.some Jvm.ClassFile.FieldType.int)).before args0 about1 = true := code_word (m := ⟨11, 2⟩) (meth := k11m2) (c := k11c2) (by decide +kernel) rfl rfl rfl (by decide +kernel)
set_option maxRecDepth 65536 in
theorem w_c21 : (Jvm.Cond.code ({ cls := "com/example/vestwright/vestwright/NamedValuesNamePinLaw", name := "at", desc := "(Lcom/example/vestwright/vestwright/NamedValues;II[C)Z" } : Jvm.MethodName) method_3_code (5 : Nat) (Option.some Jvm.ClassFile.FieldType.boolean)).before args0 about1 = true := code_word (m := ⟨1, 2⟩) (meth := k1m2) (c := k1c2) (by decide +kernel) rfl rfl rfl (by decide +kernel)
set_option maxRecDepth 65536 in
theorem w_c22 : (Jvm.Cond.code ({ cls := "com/example/vestwright/vestwright/NamedValues", name := "name", desc := "(I)Ljava/lang/String;" } : Jvm.MethodName) prog_12_method_8_code (2 : Nat) (Option.some (Jvm.ClassFile.FieldType.object "java/lang/String"))).before args0 about1 = true := code_word (m := ⟨11, 3⟩) (meth := k11m3) (c := k11c3) (by decide +kernel) rfl rfl rfl (by decide +kernel)
set_option maxRecDepth 65536 in
theorem w_c23 : (Jvm.Cond.code ({ cls := "java/lang/String", name := "valueOf", desc := "(C)Ljava/lang/String;" } : Jvm.MethodName) jdk_42_method_139_code (1 : Nat) (Option.some (Jvm.ClassFile.FieldType.object "java/lang/String"))).before args0 about1 = true := code_word (m := ⟨7, 4⟩) (meth := k7m4) (c := k7c4) (by decide +kernel) rfl rfl rfl (by decide +kernel)
set_option maxRecDepth 65536 in
theorem w_c24 : (Jvm.Cond.code ({ cls := "java/lang/StringLatin1", name := "canEncode", desc := "(C)Z" } : Jvm.MethodName) jdk_43_method_3_code (1 : Nat) (Option.some Jvm.ClassFile.FieldType.boolean)).before args0 about1 = true := code_word (m := ⟨16, 1⟩) (meth := k16m1) (c := k16c1) (by decide +kernel) rfl rfl rfl (by decide +kernel)
set_option maxRecDepth 65536 in
theorem w_c25 : (Jvm.Cond.code ({ cls := "java/lang/StringLatin1", name := "toBytes", desc := "(C)[B" } : Jvm.MethodName) jdk_43_method_46_code (1 : Nat) (Option.some (Jvm.ClassFile.FieldType.array Jvm.ClassFile.FieldType.byte))).before args0 about1 = true := code_word (m := ⟨16, 4⟩) (meth := k16m4) (c := k16c4) (by decide +kernel) rfl rfl rfl (by decide +kernel)
set_option maxRecDepth 65536 in
theorem w_c26 : (Jvm.Cond.code ({ cls := "java/lang/String", name := "<init>", desc := "([BB)V" } : Jvm.MethodName) jdk_42_method_151_code (3 : Nat) (Option.none : Option Jvm.ClassFile.FieldType)).before args0 about1 = true := code_word (m := ⟨7, 6⟩) (meth := k7m6) (c := k7c6) (by decide +kernel) rfl rfl rfl (by decide +kernel)
set_option maxRecDepth 65536 in
theorem w_c27 : (Jvm.Cond.code ({ cls := "com/example/vestwright/vestwright/NamedValues", name := "grow", desc := "()V" } : Jvm.MethodName) prog_12_method_11_code (6 : Nat) (Option.none : Option Jvm.ClassFile.FieldType)).before args0 about1 = true := code_word (m := ⟨11, 4⟩) (meth := k11m4) (c := k11c4) (by decide +kernel) rfl rfl rfl (by decide +kernel)
def codes1 : List Jvm.Cond := [Jvm.Cond.code x code maxLocals ret, Jvm.Cond.code ({ cls := "com/example/vestwright/vestwright/NamedValuesNamePinLaw", name := "fresh", desc := "(C)Ljava/lang/String;" } : Jvm.MethodName) method_2_code (2 : Nat) (Option.some (Jvm.ClassFile.FieldType.object "java/lang/String")), Jvm.Cond.code ({ cls := "java/lang/String", name := "<init>", desc := "([C)V" } : Jvm.MethodName) jdk_42_method_3_code (2 : Nat) (Option.none : Option Jvm.ClassFile.FieldType), Jvm.Cond.code ({ cls := "java/lang/String", name := "<init>", desc := "([CIILjava/lang/Void;)V" } : Jvm.MethodName) jdk_42_method_149_code (6 : Nat) (Option.none : Option Jvm.ClassFile.FieldType), Jvm.Cond.code ({ cls := "java/lang/Object", name := "<init>", desc := "()V" } : Jvm.MethodName) object_method_1_code (1 : Nat) (Option.none : Option Jvm.ClassFile.FieldType), Jvm.Cond.code ({ cls := "java/lang/StringUTF16", name := "compress", desc := "([CII)[B" } : Jvm.MethodName) jdk_52_method_16_code (6 : Nat) (Option.some (Jvm.ClassFile.FieldType.array Jvm.ClassFile.FieldType.byte)), Jvm.Cond.code ({ cls := "java/lang/StringUTF16", name := "compress", desc := "([CI[BII)I" } : Jvm.MethodName) jdk_52_method_21_code (7 : Nat) (Option.some Jvm.ClassFile.FieldType.int), Jvm.Cond.code ({ cls := "java/lang/StringUTF16", name := "coderFromArrayLen", desc := "([BI)B" } : Jvm.MethodName) jdk_52_method_15_code (2 : Nat) (Option.some Jvm.ClassFile.FieldType.byte), Jvm.Cond.code ({ cls := "com/example/vestwright/vestwright/NamedValues", name := "<init>", desc := "(I)V" } : Jvm.MethodName) prog_12_method_1_code (3 : Nat) (Option.none : Option Jvm.ClassFile.FieldType), Jvm.Cond.code ({ cls := "java/util/AbstractMap", name := "<init>", desc := "()V" } : Jvm.MethodName) jdk_71_method_1_code (1 : Nat) (Option.none : Option Jvm.ClassFile.FieldType), Jvm.Cond.code ({ cls := "java/lang/Math", name := "max", desc := "(II)I" } : Jvm.MethodName) jdk_29_method_65_code (2 : Nat) (Option.some Jvm.ClassFile.FieldType.int), Jvm.Cond.code ({ cls := "java/lang/Integer", name := "highestOneBit", desc := "(I)I" } : Jvm.MethodName) jdk_33_method_45_code (1 : Nat) (Option.some Jvm.ClassFile.FieldType.int), Jvm.Cond.code ({ cls := "java/lang/Integer", name := "numberOfLeadingZeros", desc := "(I)I" } : Jvm.MethodName) jdk_33_method_47_code (2 : Nat) (Option.some Jvm.ClassFile.FieldType.int), Jvm.Cond.code ({ cls := "java/lang/Integer", name := "valueOf", desc := "(I)Ljava/lang/Integer;" } : Jvm.MethodName) jdk_33_method_22_code (1 : Nat) (Option.some (Jvm.ClassFile.FieldType.object "java/lang/Integer")), Jvm.Cond.code ({ cls := "com/example/vestwright/vestwright/NamedValues", name := "put", desc := "(Ljava/lang/String;Ljava/lang/Object;)Ljava/lang/Object;" } : Jvm.MethodName) prog_12_method_5_code (6 : Nat) (Option.some (Jvm.ClassFile.FieldType.object "java/lang/Object")), Jvm.Cond.code ({ cls := "java/lang/String", name := "hashCode", desc := "()I" } : Jvm.MethodName) jdk_42_method_78_code (2 : Nat) (Option.some Jvm.ClassFile.FieldType.int), Jvm.Cond.code ({ cls := "java/lang/String", name := "isLatin1", desc := "()Z" } : Jvm.MethodName) jdk_42_method_154_code (1 : Nat) (Option.some Jvm.ClassFile.FieldType.boolean), Jvm.Cond.code ({ cls := "java/lang/StringLatin1", name := "hashCode", desc := "([B)I" } : Jvm.MethodName) jdk_43_method_21_code (1 : Nat) (Option.some Jvm.ClassFile.FieldType.int), Jvm.Cond.code ({ cls := "java/lang/String", name := "equals", desc := "(Ljava/lang/Object;)Z" } : Jvm.MethodName) jdk_42_method_66_code (3 : Nat) (Option.some Jvm.ClassFile.FieldType.boolean), Jvm.Cond.code ({ cls := "java/lang/StringLatin1", name := "equals", desc := "([B[B)Z" } : Jvm.MethodName) jdk_43_method_13_code (3 : Nat) (Option.some Jvm.ClassFile.FieldType.boolean), Jvm.Cond.code ({ cls := "com/example/vestwright/vestwright/NamedValues", name := "size", desc := "()I" } : Jvm.MethodName) prog_12_method_7_code (1 : Nat) (Option.some Jvm.ClassFile.FieldType.int), Jvm.Cond.code ({ cls := "com/example/vestwright/vestwright/NamedValuesNamePinLaw", name := "at", desc := "(Lcom/example/vestwright/vestwright/NamedValues;II[C)Z" } : Jvm.MethodName) method_3_code (5 : Nat) (Option.some Jvm.ClassFile.FieldType.boolean), Jvm.Cond.code ({ cls := "com/example/vestwright/vestwright/NamedValues", name := "name", desc := "(I)Ljava/lang/String;" } : Jvm.MethodName) prog_12_method_8_code (2 : Nat) (Option.some (Jvm.ClassFile.FieldType.object "java/lang/String")), Jvm.Cond.code ({ cls := "java/lang/String", name := "valueOf", desc := "(C)Ljava/lang/String;" } : Jvm.MethodName) jdk_42_method_139_code (1 : Nat) (Option.some (Jvm.ClassFile.FieldType.object "java/lang/String")), Jvm.Cond.code ({ cls := "java/lang/StringLatin1", name := "canEncode", desc := "(C)Z" } : Jvm.MethodName) jdk_43_method_3_code (1 : Nat) (Option.some Jvm.ClassFile.FieldType.boolean), Jvm.Cond.code ({ cls := "java/lang/StringLatin1", name := "toBytes", desc := "(C)[B" } : Jvm.MethodName) jdk_43_method_46_code (1 : Nat) (Option.some (Jvm.ClassFile.FieldType.array Jvm.ClassFile.FieldType.byte)), Jvm.Cond.code ({ cls := "java/lang/String", name := "<init>", desc := "([BB)V" } : Jvm.MethodName) jdk_42_method_151_code (3 : Nat) (Option.none : Option Jvm.ClassFile.FieldType), Jvm.Cond.code ({ cls := "com/example/vestwright/vestwright/NamedValues", name := "grow", desc := "()V" } : Jvm.MethodName) prog_12_method_11_code (6 : Nat) (Option.none : Option Jvm.ClassFile.FieldType)]
set_option maxRecDepth 65536 in
theorem codes_eq : words1.filter isCode = codes1 := rfl
theorem w_codes : ∀ c ∈ words1.filter isCode, c.before args0 about1 = true := by
  rw [codes_eq]
  intro c hc
  simp only [codes1, List.mem_cons, List.not_mem_nil, or_false] at hc
  rcases hc with rfl | rfl | rfl | rfl | rfl | rfl | rfl | rfl | rfl | rfl | rfl | rfl | rfl | rfl | rfl | rfl | rfl | rfl | rfl | rfl | rfl | rfl | rfl | rfl | rfl | rfl | rfl | rfl
  · exact w_c0
  · exact w_c1
  · exact w_c2
  · exact w_c3
  · exact w_c4
  · exact w_c5
  · exact w_c6
  · exact w_c7
  · exact w_c8
  · exact w_c9
  · exact w_c10
  · exact w_c11
  · exact w_c12
  · exact w_c13
  · exact w_c14
  · exact w_c15
  · exact w_c16
  · exact w_c17
  · exact w_c18
  · exact w_c19
  · exact w_c20
  · exact w_c21
  · exact w_c22
  · exact w_c23
  · exact w_c24
  · exact w_c25
  · exact w_c26
  · exact w_c27
set_option maxRecDepth 65536 in
theorem w_t1 : (words1.take 24).all (fun c => isCode c || c.before args0 about1) = true := by decide +kernel
set_option maxRecDepth 65536 in
theorem w_t2 : ((words1.drop 24).take 24).all (fun c => isCode c || c.before args0 about1) = true := by decide +kernel
set_option maxRecDepth 65536 in
theorem w_t3 : (((words1.drop 24).drop 24).take 24).all (fun c => isCode c || c.before args0 about1) = true := by decide +kernel
set_option maxRecDepth 65536 in
theorem w_t4 : ((((words1.drop 24).drop 24).drop 24).take 24).all (fun c => isCode c || c.before args0 about1) = true := by decide +kernel
set_option maxRecDepth 65536 in
theorem w_t5 : (((((words1.drop 24).drop 24).drop 24).drop 24).take 24).all (fun c => isCode c || c.before args0 about1) = true := by decide +kernel
set_option maxRecDepth 65536 in
theorem w_t6 : (((((words1.drop 24).drop 24).drop 24).drop 24).drop 24).all (fun c => isCode c || c.before args0 about1) = true := by decide +kernel
theorem w_tables : (allAtoms (Jvm.Cond.code x code maxLocals ret :: tables_1)).before args0 about1 = true := by
  rw [allAtoms_all]
  show words1.all (fun c => c.before args0 about1) = true
  refine all_split ?_ w_codes
  rw [← List.take_append_drop 24 words1, List.all_append, w_t1, ← List.take_append_drop 24 (words1.drop 24), List.all_append, w_t2, ← List.take_append_drop 24 ((words1.drop 24).drop 24), List.all_append, w_t3, ← List.take_append_drop 24 (((words1.drop 24).drop 24).drop 24), List.all_append, w_t4, ← List.take_append_drop 24 ((((words1.drop 24).drop 24).drop 24).drop 24), List.all_append, w_t5, w_t6]
  rfl
set_option maxRecDepth 65536 in
theorem w_rest : rest_1_c.before args0 about1 = true := by decide +kernel
set_option maxRecDepth 65536 in
theorem w_case : (Jvm.Cond.and given_1 narrow_1).before args0 about1 = true := by decide +kernel
theorem w_applies : (headSpec (Jvm.Cond.code x code maxLocals ret :: tables_1) room_1).applies x e0.platform about1 = true :=
  (Spec.applies_iff w_frames).mpr ⟨w_running, w_runnable, w_alone, w_named, w_hears, w_ripe, w_room, w_tables⟩
theorem atStart : AtStart classFile x code maxLocals ret World_1 tables_1 room_1 Calls_1 rest_1 Pre_1 launch0 p0 e0 about1 theMethod args0 below0 :=
  ⟨lists_1, trivial, launch0.admits_env _ _ _, launch0.least_env, fairChoices_fair.cas, fairChoices_fair.clock, w_frames, w_args, w_heap, w_applies, trivial, w_rest, w_case⟩
end start1
theorem witness_1 : WitnessClaimed_1 := ⟨start1.p0, start1.e0, start1.about1, start1.theMethod, start1.args0, start1.below0, start1.atStart⟩
end Jvm.Pilot.@@N@@
