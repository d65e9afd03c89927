import JvmDerived
import JvmDerived.Pilot.@@N@@Statement
import JvmDerived.Pilot.@@N@@Code
set_option linter.unusedVariables false
set_option linter.unusedSimpArgs false
namespace Jvm.Own
open Sem ClassFile Op Lib Jvm.Stand Jvm.Free Jvm.LawKit Jvm.RoadKit
/-- what of a walk never changes: program, environment, the invocation's state, method, arguments, frames below, method, code -/
abbrev Ctx : Type := Program × Env × State × MethodId × Array Value × List Frame × Method × Code × (Outcome → State → List Loc → Nat → Nat → Prop)
abbrev Ctx.p (K : Ctx) : Program := K.1
abbrev Ctx.e (K : Ctx) : Env := K.2.1
abbrev Ctx.s (K : Ctx) : State := K.2.2.1
abbrev Ctx.m (K : Ctx) : MethodId := K.2.2.2.1
abbrev Ctx.args (K : Ctx) : Array Value := K.2.2.2.2.1
abbrev Ctx.below (K : Ctx) : List Frame := K.2.2.2.2.2.1
abbrev Ctx.meth (K : Ctx) : Method := K.2.2.2.2.2.2.1
abbrev Ctx.c (K : Ctx) : Code := K.2.2.2.2.2.2.2.1
abbrev Ctx.F (K : Ctx) : Outcome → State → List Loc → Nat → Nat → Prop := K.2.2.2.2.2.2.2.2
/-- the run from S comes to the end of the invocation, in G -/
def Ends (K : Ctx) (S : State) (G : Outcome → State → Prop) : Prop := ∃ s₂ o, Steps K.p.tables K.e K.below S s₂ ∧ s₂.status = .running ∧ Ended s₂ K.below o ∧ G o s₂
theorem Ends.step {K : Ctx} {S S' : State} {G : Outcome → State → Prop} (f : ∀ t, Steps K.p.tables K.e K.below S' t → Steps K.p.tables K.e K.below S t) (h : Ends K S' G) : Ends K S G := by
  obtain ⟨a, b, c, d⟩ := h
  exact ⟨a, b, f _ c, d⟩
/-- from every state that stands in this walk with the heap h, cc cells and ss slots made, the frame (pc, ls, st) runs to a return in Q -/
def W (l : Launch) (Z : State) (R : Room) (K : Ctx) (Q : Option Value → Heap → Prop) (h : Heap) (cc ss pc : Nat) (ls : Array Slot) (st : List Value) : Prop :=
  ∀ (T : State) (L : List Loc), Stand K.p l K.e R K.s K.m K.args K.below K.meth K.c T L cc ss → Fr Z.heap.size L → T.heap = h →
    Ends K (T.setTop (mkF K.m pc ls st)) (fun o U => ∃ v L, o = .returned v ∧ (Q v U.heap ∧ Fr Z.heap.size L) ∧ K.F o U L R.cells R.slots)
def Ok (Z : State) (K : Ctx) (y : MethodName) (code : ByteArray) (maxL : Nat) (ret : Option FieldType) : Prop :=
  K.p.tables.exec = Jvm.exec ∧ Z.Warmed39 K.s.vm ∧ K.c.code = code ∧ K.c.maxLocals = maxL ∧ K.s.vm.findClass y.cls = some K.m.cls ∧ K.meth.sig.returnType = ret ∧ K.meth.name = y.name ∧ K.meth.locks = false ∧ ∀ o U L c n, FrameEnd K.s o U L c n → K.F o U L c n
/-- a callee's contract: at the heap h0, with the arguments as, it returns in Q -/
def Con (l : Launch) (Z : State) (y : MethodName) (code : ByteArray) (maxL : Nat) (ret : Option FieldType) (rm : Room) (as : Array Value) (h0 : Heap) (Q : Option Value → Heap → Prop) : Prop :=
  ∀ ws : List Jvm.Cond, MetFree l y (head1 (Jvm.Cond.code y code maxL ret :: ws) rm) (fun a U => a = as ∧ Z.Warmed39 U.vm ∧ U.heap = h0) (fun _ _ _ _ _ => True) (fun _ U o U' => ∃ v L, o = .returned v ∧ (Q v U'.heap ∧ Fr Z.heap.size L) ∧ FrameEnd U o U' L rm.cells rm.slots)
def cdT : ClassFile.Cond → Int32 → Int32 → Prop
  | .eq, x, y => x = y
  | .ne, x, y => ¬ (x = y)
  | .lt, x, y => x < y
  | .ge, x, y => ¬ (x < y)
  | .gt, x, y => y < x
  | .le, x, y => ¬ (y < x)
def cdF : ClassFile.Cond → Int32 → Int32 → Prop
  | .eq, x, y => ¬ (x = y)
  | .ne, x, y => x = y
  | .lt, x, y => ¬ (x < y)
  | .ge, x, y => x < y
  | .gt, x, y => ¬ (y < x)
  | .le, x, y => y < x
theorem cd_t {cd : ClassFile.Cond} {x y : Int32} (h : cdT cd x y) : if_icmp.holds cd x y = true := by
  cases cd
  · exact (teq h).1
  · exact (feq h).2
  · exact (tlt h).1
  · exact (flt h).2.1
  · exact (tlt h).2.2.1
  · exact (flt h).2.2.2
theorem cd_f {cd : ClassFile.Cond} {x y : Int32} (h : cdF cd x y) : if_icmp.holds cd x y = false := by
  cases cd
  · exact (feq h).1
  · exact (teq h).2
  · exact (flt h).1
  · exact (tlt h).2.1
  · exact (flt h).2.2.1
  · exact (tlt h).2.2.2
theorem cd_or (cd : ClassFile.Cond) (x y : Int32) : cdT cd x y ∨ cdF cd x y := by
  cases cd
  · exact Classical.em _
  · exact (Classical.em _).symm
  · exact Classical.em _
  · exact (Classical.em _).symm
  · exact Classical.em _
  · exact (Classical.em _).symm
section Walk
variable {l : Launch} {Z : State} {R : Room} {K : Ctx} {Q : Option Value → Heap → Prop} {h : Heap} {cc ss pc : Nat} {ls : Array Slot} {st : List Value} {y : MethodName} {code : ByteArray} {maxL : Nat} {ret : Option FieldType} {a0 : Array Value} {ts : List Jvm.Cond}
theorem Con.of {rm : Room} {as : Array Value} {h0 : Heap} (hp : plainFor y = true) (ls : Array Slot) (hf : ∀ m, entryFrame m as maxL = mkF m 0 ls []) (hW : ∀ K : Ctx, Ok Z K y code maxL ret → W l Z rm K Q h0 0 0 0 ls []) : Con l Z y code maxL ret rm as h0 Q := by
  intro ws
  refine MetFree.of_bodySF hp hisR ?_
  intro p e s m args below meth c s₁ Bd hml0 hP hK
  obtain ⟨rfl, hZ, hh⟩ := hP
  have e0 : s₁.heap = h0 := by rw [← hh, Bd.state]; rfl
  have X0 : Stand p l e rm s m args below meth c s₁ [] 0 0 := Stand.of_body Bd
  rw [hf]
  exact hW (p, e, s, m, args, below, meth, c, FrameEnd s) ⟨Bd.exec, hZ, Bd.bytes, hml0, findClass_of_methodNamed Bd.named, Bd.returns, (name_of_methodNamed Bd.named Bd.method).1, Bd.notSynchronized, fun _ _ _ _ _ q => q⟩ s₁ [] X0 (Fr.nil _) e0
theorem W.more {cc' ss' : Nat} (hc : cc ≤ cc') (hs : ss ≤ ss') (H : W l Z R K Q h cc' ss' pc ls st) : W l Z R K Q h cc ss pc ls st := fun T L X N e => H T L (X.more hc hs) N e

theorem W.iload (ok : Ok Z K y code maxL ret) {k : Nat} {v : Int32} (hd : decode code pc = .ok (.iload k, 2)) (pc' : Nat) (hl : ls[k]? = some (.val (.int v))) (H : W l Z R K Q h cc ss pc' ls (.int v :: st)) (hp : pc + 2 = pc' := by rfl) : W l Z R K Q h cc ss pc ls (st) := by
  subst hp
  exact fun T L X N e => Ends.step (fun t k => XS.iload X.here ok.1 rfl (hb ok.2.2.1 hd) hl k) (H T L X N e)
theorem W.lload (ok : Ok Z K y code maxL ret) {k : Nat} {v : Int64} (hd : decode code pc = .ok (.lload k, 2)) (pc' : Nat) (hl : ls[k]? = some (.val (.long v))) (H : W l Z R K Q h cc ss pc' ls (.long v :: st)) (hp : pc + 2 = pc' := by rfl) : W l Z R K Q h cc ss pc ls (st) := by
  subst hp
  exact fun T L X N e => Ends.step (fun t k => XS.lload X.here ok.1 rfl (hb ok.2.2.1 hd) hl k) (H T L X N e)
theorem W.aload (ok : Ok Z K y code maxL ret) {k : Nat} {v : Value} (hd : decode code pc = .ok (.aload k, 2)) (pc' : Nat) (hl : ls[k]? = some (.val v)) (hv : v.isRef = true) (H : W l Z R K Q h cc ss pc' ls (v :: st)) (hp : pc + 2 = pc' := by rfl) : W l Z R K Q h cc ss pc ls (st) := by
  subst hp
  exact fun T L X N e => Ends.step (fun t k => XS.aload X.here ok.1 rfl (hb ok.2.2.1 hd) hl hv k) (H T L X N e)
theorem W.istore (ok : Ok Z K y code maxL ret) {k : Nat} {v : Int32} (hd : decode code pc = .ok (.istore k, 2)) (pc' : Nat) (ls' : Array Slot) (hl : storeLocals ls k (.int v) = some ls') (H : W l Z R K Q h cc ss pc' ls' (st)) (hp : pc + 2 = pc' := by rfl) : W l Z R K Q h cc ss pc ls (.int v :: st) := by
  subst hp
  exact fun T L X N e => Ends.step (fun t k => XS.istore X.here ok.1 rfl (hb ok.2.2.1 hd) rfl hl k) (H T L X N e)
theorem W.lstore (ok : Ok Z K y code maxL ret) {k : Nat} {v : Int64} (hd : decode code pc = .ok (.lstore k, 2)) (pc' : Nat) (ls' : Array Slot) (hl : storeLocals ls k (.long v) = some ls') (H : W l Z R K Q h cc ss pc' ls' (st)) (hp : pc + 2 = pc' := by rfl) : W l Z R K Q h cc ss pc ls (.long v :: st) := by
  subst hp
  exact fun T L X N e => Ends.step (fun t k => XS.lstore X.here ok.1 rfl (hb ok.2.2.1 hd) rfl hl k) (H T L X N e)
theorem W.astore (ok : Ok Z K y code maxL ret) {k : Nat} {v : Value} (hd : decode code pc = .ok (.astore k, 2)) (pc' : Nat) (ls' : Array Slot) (hv : v.isRef = true) (hl : storeLocals ls k v = some ls') (H : W l Z R K Q h cc ss pc' ls' (st)) (hp : pc + 2 = pc' := by rfl) : W l Z R K Q h cc ss pc ls (v :: st) := by
  subst hp
  exact fun T L X N e => Ends.step (fun t k => XS.astore X.here ok.1 rfl (hb ok.2.2.1 hd) rfl hv hl k) (H T L X N e)
theorem W.iloadN (ok : Ok Z K y code maxL ret) {k : Fin 4} {v : Int32} (hd : decode code pc = .ok (.iload_n k, 1)) (pc' : Nat) (hl : ls[k.val]? = some (.val (.int v))) (H : W l Z R K Q h cc ss pc' ls (.int v :: st)) (hp : pc + 1 = pc' := by rfl) : W l Z R K Q h cc ss pc ls (st) := by
  subst hp
  exact fun T L X N e => Ends.step (fun t k => XS.iloadN X.here ok.1 rfl (hb ok.2.2.1 hd) hl k) (H T L X N e)
theorem W.lloadN (ok : Ok Z K y code maxL ret) {k : Fin 4} {v : Int64} (hd : decode code pc = .ok (.lload_n k, 1)) (pc' : Nat) (hl : ls[k.val]? = some (.val (.long v))) (H : W l Z R K Q h cc ss pc' ls (.long v :: st)) (hp : pc + 1 = pc' := by rfl) : W l Z R K Q h cc ss pc ls (st) := by
  subst hp
  exact fun T L X N e => Ends.step (fun t k => XS.lloadN X.here ok.1 rfl (hb ok.2.2.1 hd) hl k) (H T L X N e)
theorem W.aloadN (ok : Ok Z K y code maxL ret) {k : Fin 4} {v : Value} (hd : decode code pc = .ok (.aload_n k, 1)) (pc' : Nat) (hl : ls[k.val]? = some (.val v)) (hv : v.isRef = true) (H : W l Z R K Q h cc ss pc' ls (v :: st)) (hp : pc + 1 = pc' := by rfl) : W l Z R K Q h cc ss pc ls (st) := by
  subst hp
  exact fun T L X N e => Ends.step (fun t k => XS.aloadN X.here ok.1 rfl (hb ok.2.2.1 hd) hl hv k) (H T L X N e)
theorem W.istoreN (ok : Ok Z K y code maxL ret) {k : Fin 4} {v : Int32} (hd : decode code pc = .ok (.istore_n k, 1)) (pc' : Nat) (ls' : Array Slot) (hl : storeLocals ls k.val (.int v) = some ls') (H : W l Z R K Q h cc ss pc' ls' (st)) (hp : pc + 1 = pc' := by rfl) : W l Z R K Q h cc ss pc ls (.int v :: st) := by
  subst hp
  exact fun T L X N e => Ends.step (fun t k => XS.istoreN X.here ok.1 rfl (hb ok.2.2.1 hd) rfl hl k) (H T L X N e)
theorem W.lstoreN (ok : Ok Z K y code maxL ret) {k : Fin 4} {v : Int64} (hd : decode code pc = .ok (.lstore_n k, 1)) (pc' : Nat) (ls' : Array Slot) (hl : storeLocals ls k.val (.long v) = some ls') (H : W l Z R K Q h cc ss pc' ls' (st)) (hp : pc + 1 = pc' := by rfl) : W l Z R K Q h cc ss pc ls (.long v :: st) := by
  subst hp
  exact fun T L X N e => Ends.step (fun t k => XS.lstoreN X.here ok.1 rfl (hb ok.2.2.1 hd) rfl hl k) (H T L X N e)
theorem W.astoreN (ok : Ok Z K y code maxL ret) {k : Fin 4} {v : Value} (hd : decode code pc = .ok (.astore_n k, 1)) (pc' : Nat) (ls' : Array Slot) (hv : v.isRef = true) (hl : storeLocals ls k.val v = some ls') (H : W l Z R K Q h cc ss pc' ls' (st)) (hp : pc + 1 = pc' := by rfl) : W l Z R K Q h cc ss pc ls (v :: st) := by
  subst hp
  exact fun T L X N e => Ends.step (fun t k => XS.astoreN X.here ok.1 rfl (hb ok.2.2.1 hd) rfl hv hl k) (H T L X N e)
theorem W.iconst (ok : Ok Z K y code maxL ret) {i : Int} (hd : decode code pc = .ok (.iconst i, 1)) (pc' : Nat) (v : Int32) (hv : Int32.ofInt i = v) (H : W l Z R K Q h cc ss pc' ls (.int v :: st)) (hp : pc + 1 = pc' := by rfl) : W l Z R K Q h cc ss pc ls (st) := by
  subst hp
  subst hv
  exact fun T L X N e => Ends.step (fun t k => XS.iconst X.here ok.1 rfl (hb ok.2.2.1 hd)  k) (H T L X N e)
theorem W.bipush (ok : Ok Z K y code maxL ret) {i : Int} (hd : decode code pc = .ok (.bipush i, 2)) (pc' : Nat) (v : Int32) (hv : (Int8.ofInt i).toInt32 = v) (H : W l Z R K Q h cc ss pc' ls (.int v :: st)) (hp : pc + 2 = pc' := by rfl) : W l Z R K Q h cc ss pc ls (st) := by
  subst hp
  subst hv
  exact fun T L X N e => Ends.step (fun t k => XS.bipush X.here ok.1 rfl (hb ok.2.2.1 hd)  k) (H T L X N e)
theorem W.sipush (ok : Ok Z K y code maxL ret) {i : Int} (hd : decode code pc = .ok (.sipush i, 3)) (pc' : Nat) (v : Int32) (hv : (Int16.ofInt i).toInt32 = v) (H : W l Z R K Q h cc ss pc' ls (.int v :: st)) (hp : pc + 3 = pc' := by rfl) : W l Z R K Q h cc ss pc ls (st) := by
  subst hp
  subst hv
  exact fun T L X N e => Ends.step (fun t k => XS.sipush X.here ok.1 rfl (hb ok.2.2.1 hd)  k) (H T L X N e)
theorem W.lconst (ok : Ok Z K y code maxL ret) {i : Fin 2} (hd : decode code pc = .ok (.lconst i, 1)) (pc' : Nat) (v : Int64) (hv : Int64.ofNat i = v) (H : W l Z R K Q h cc ss pc' ls (.long v :: st)) (hp : pc + 1 = pc' := by rfl) : W l Z R K Q h cc ss pc ls (st) := by
  subst hp
  subst hv
  exact fun T L X N e => Ends.step (fun t k => XS.lconst X.here ok.1 rfl (hb ok.2.2.1 hd)  k) (H T L X N e)
theorem W.aconstNull (ok : Ok Z K y code maxL ret)  (hd : decode code pc = .ok (.aconst_null, 1)) (pc' : Nat) (H : W l Z R K Q h cc ss pc' ls (.null :: st)) (hp : pc + 1 = pc' := by rfl) : W l Z R K Q h cc ss pc ls (st) := by
  subst hp
  exact fun T L X N e => Ends.step (fun t k => XS.aconstNull X.here ok.1 rfl (hb ok.2.2.1 hd)  k) (H T L X N e)
theorem W.iadd (ok : Ok Z K y code maxL ret) {x z : Int32} (hd : decode code pc = .ok (.iadd, 1)) (pc' : Nat) (H : W l Z R K Q h cc ss pc' ls (.int (x + z) :: st)) (hp : pc + 1 = pc' := by rfl) : W l Z R K Q h cc ss pc ls (.int z :: .int x :: st) := by
  subst hp
  exact fun T L X N e => Ends.step (fun t k => XS.iadd X.here ok.1 rfl (hb ok.2.2.1 hd) rfl k) (H T L X N e)
theorem W.iaddV (ok : Ok Z K y code maxL ret) {x z : Int32} (hd : decode code pc = .ok (.iadd, 1)) (pc' : Nat) (v : Int32) (hv : x + z = v) (H : W l Z R K Q h cc ss pc' ls (.int v :: st)) (hp : pc + 1 = pc' := by rfl) : W l Z R K Q h cc ss pc ls (.int z :: .int x :: st) := by
  subst hp
  subst hv
  exact fun T L X N e => Ends.step (fun t k => XS.iadd X.here ok.1 rfl (hb ok.2.2.1 hd) rfl k) (H T L X N e)
theorem W.isub (ok : Ok Z K y code maxL ret) {x z : Int32} (hd : decode code pc = .ok (.isub, 1)) (pc' : Nat) (H : W l Z R K Q h cc ss pc' ls (.int (x - z) :: st)) (hp : pc + 1 = pc' := by rfl) : W l Z R K Q h cc ss pc ls (.int z :: .int x :: st) := by
  subst hp
  exact fun T L X N e => Ends.step (fun t k => XS.isub X.here ok.1 rfl (hb ok.2.2.1 hd) rfl k) (H T L X N e)
theorem W.isubV (ok : Ok Z K y code maxL ret) {x z : Int32} (hd : decode code pc = .ok (.isub, 1)) (pc' : Nat) (v : Int32) (hv : x - z = v) (H : W l Z R K Q h cc ss pc' ls (.int v :: st)) (hp : pc + 1 = pc' := by rfl) : W l Z R K Q h cc ss pc ls (.int z :: .int x :: st) := by
  subst hp
  subst hv
  exact fun T L X N e => Ends.step (fun t k => XS.isub X.here ok.1 rfl (hb ok.2.2.1 hd) rfl k) (H T L X N e)
theorem W.imul (ok : Ok Z K y code maxL ret) {x z : Int32} (hd : decode code pc = .ok (.imul, 1)) (pc' : Nat) (H : W l Z R K Q h cc ss pc' ls (.int (x * z) :: st)) (hp : pc + 1 = pc' := by rfl) : W l Z R K Q h cc ss pc ls (.int z :: .int x :: st) := by
  subst hp
  exact fun T L X N e => Ends.step (fun t k => XS.imul X.here ok.1 rfl (hb ok.2.2.1 hd) rfl k) (H T L X N e)
theorem W.imulV (ok : Ok Z K y code maxL ret) {x z : Int32} (hd : decode code pc = .ok (.imul, 1)) (pc' : Nat) (v : Int32) (hv : x * z = v) (H : W l Z R K Q h cc ss pc' ls (.int v :: st)) (hp : pc + 1 = pc' := by rfl) : W l Z R K Q h cc ss pc ls (.int z :: .int x :: st) := by
  subst hp
  subst hv
  exact fun T L X N e => Ends.step (fun t k => XS.imul X.here ok.1 rfl (hb ok.2.2.1 hd) rfl k) (H T L X N e)
theorem W.iand (ok : Ok Z K y code maxL ret) {x z : Int32} (hd : decode code pc = .ok (.iand, 1)) (pc' : Nat) (H : W l Z R K Q h cc ss pc' ls (.int (x &&& z) :: st)) (hp : pc + 1 = pc' := by rfl) : W l Z R K Q h cc ss pc ls (.int z :: .int x :: st) := by
  subst hp
  exact fun T L X N e => Ends.step (fun t k => XS.iand X.here ok.1 rfl (hb ok.2.2.1 hd) rfl k) (H T L X N e)
theorem W.iandV (ok : Ok Z K y code maxL ret) {x z : Int32} (hd : decode code pc = .ok (.iand, 1)) (pc' : Nat) (v : Int32) (hv : x &&& z = v) (H : W l Z R K Q h cc ss pc' ls (.int v :: st)) (hp : pc + 1 = pc' := by rfl) : W l Z R K Q h cc ss pc ls (.int z :: .int x :: st) := by
  subst hp
  subst hv
  exact fun T L X N e => Ends.step (fun t k => XS.iand X.here ok.1 rfl (hb ok.2.2.1 hd) rfl k) (H T L X N e)
theorem W.ior (ok : Ok Z K y code maxL ret) {x z : Int32} (hd : decode code pc = .ok (.ior, 1)) (pc' : Nat) (H : W l Z R K Q h cc ss pc' ls (.int (x ||| z) :: st)) (hp : pc + 1 = pc' := by rfl) : W l Z R K Q h cc ss pc ls (.int z :: .int x :: st) := by
  subst hp
  exact fun T L X N e => Ends.step (fun t k => XS.ior X.here ok.1 rfl (hb ok.2.2.1 hd) rfl k) (H T L X N e)
theorem W.iorV (ok : Ok Z K y code maxL ret) {x z : Int32} (hd : decode code pc = .ok (.ior, 1)) (pc' : Nat) (v : Int32) (hv : x ||| z = v) (H : W l Z R K Q h cc ss pc' ls (.int v :: st)) (hp : pc + 1 = pc' := by rfl) : W l Z R K Q h cc ss pc ls (.int z :: .int x :: st) := by
  subst hp
  subst hv
  exact fun T L X N e => Ends.step (fun t k => XS.ior X.here ok.1 rfl (hb ok.2.2.1 hd) rfl k) (H T L X N e)
theorem W.ixor (ok : Ok Z K y code maxL ret) {x z : Int32} (hd : decode code pc = .ok (.ixor, 1)) (pc' : Nat) (H : W l Z R K Q h cc ss pc' ls (.int (x ^^^ z) :: st)) (hp : pc + 1 = pc' := by rfl) : W l Z R K Q h cc ss pc ls (.int z :: .int x :: st) := by
  subst hp
  exact fun T L X N e => Ends.step (fun t k => XS.ixor X.here ok.1 rfl (hb ok.2.2.1 hd) rfl k) (H T L X N e)
theorem W.ixorV (ok : Ok Z K y code maxL ret) {x z : Int32} (hd : decode code pc = .ok (.ixor, 1)) (pc' : Nat) (v : Int32) (hv : x ^^^ z = v) (H : W l Z R K Q h cc ss pc' ls (.int v :: st)) (hp : pc + 1 = pc' := by rfl) : W l Z R K Q h cc ss pc ls (.int z :: .int x :: st) := by
  subst hp
  subst hv
  exact fun T L X N e => Ends.step (fun t k => XS.ixor X.here ok.1 rfl (hb ok.2.2.1 hd) rfl k) (H T L X N e)
theorem W.ishl (ok : Ok Z K y code maxL ret) {x z : Int32} (hd : decode code pc = .ok (.ishl, 1)) (pc' : Nat) (H : W l Z R K Q h cc ss pc' ls (.int (x <<< (z &&& 31)) :: st)) (hp : pc + 1 = pc' := by rfl) : W l Z R K Q h cc ss pc ls (.int z :: .int x :: st) := by
  subst hp
  exact fun T L X N e => Ends.step (fun t k => XS.ishl X.here ok.1 rfl (hb ok.2.2.1 hd) rfl k) (H T L X N e)
theorem W.ishlV (ok : Ok Z K y code maxL ret) {x z : Int32} (hd : decode code pc = .ok (.ishl, 1)) (pc' : Nat) (v : Int32) (hv : x <<< (z &&& 31) = v) (H : W l Z R K Q h cc ss pc' ls (.int v :: st)) (hp : pc + 1 = pc' := by rfl) : W l Z R K Q h cc ss pc ls (.int z :: .int x :: st) := by
  subst hp
  subst hv
  exact fun T L X N e => Ends.step (fun t k => XS.ishl X.here ok.1 rfl (hb ok.2.2.1 hd) rfl k) (H T L X N e)
theorem W.ishr (ok : Ok Z K y code maxL ret) {x z : Int32} (hd : decode code pc = .ok (.ishr, 1)) (pc' : Nat) (H : W l Z R K Q h cc ss pc' ls (.int (x >>> (z &&& 31)) :: st)) (hp : pc + 1 = pc' := by rfl) : W l Z R K Q h cc ss pc ls (.int z :: .int x :: st) := by
  subst hp
  exact fun T L X N e => Ends.step (fun t k => XS.ishr X.here ok.1 rfl (hb ok.2.2.1 hd) rfl k) (H T L X N e)
theorem W.ishrV (ok : Ok Z K y code maxL ret) {x z : Int32} (hd : decode code pc = .ok (.ishr, 1)) (pc' : Nat) (v : Int32) (hv : x >>> (z &&& 31) = v) (H : W l Z R K Q h cc ss pc' ls (.int v :: st)) (hp : pc + 1 = pc' := by rfl) : W l Z R K Q h cc ss pc ls (.int z :: .int x :: st) := by
  subst hp
  subst hv
  exact fun T L X N e => Ends.step (fun t k => XS.ishr X.here ok.1 rfl (hb ok.2.2.1 hd) rfl k) (H T L X N e)
theorem W.iushr (ok : Ok Z K y code maxL ret) {x z : Int32} (hd : decode code pc = .ok (.iushr, 1)) (pc' : Nat) (H : W l Z R K Q h cc ss pc' ls (.int ((x.toUInt32 >>> (z &&& 31).toUInt32).toInt32) :: st)) (hp : pc + 1 = pc' := by rfl) : W l Z R K Q h cc ss pc ls (.int z :: .int x :: st) := by
  subst hp
  exact fun T L X N e => Ends.step (fun t k => XS.iushr X.here ok.1 rfl (hb ok.2.2.1 hd) rfl k) (H T L X N e)
theorem W.iushrV (ok : Ok Z K y code maxL ret) {x z : Int32} (hd : decode code pc = .ok (.iushr, 1)) (pc' : Nat) (v : Int32) (hv : (x.toUInt32 >>> (z &&& 31).toUInt32).toInt32 = v) (H : W l Z R K Q h cc ss pc' ls (.int v :: st)) (hp : pc + 1 = pc' := by rfl) : W l Z R K Q h cc ss pc ls (.int z :: .int x :: st) := by
  subst hp
  subst hv
  exact fun T L X N e => Ends.step (fun t k => XS.iushr X.here ok.1 rfl (hb ok.2.2.1 hd) rfl k) (H T L X N e)
theorem W.ladd (ok : Ok Z K y code maxL ret) {x z : Int64} (hd : decode code pc = .ok (.ladd, 1)) (pc' : Nat) (H : W l Z R K Q h cc ss pc' ls (.long (x + z) :: st)) (hp : pc + 1 = pc' := by rfl) : W l Z R K Q h cc ss pc ls (.long z :: .long x :: st) := by
  subst hp
  exact fun T L X N e => Ends.step (fun t k => XS.ladd X.here ok.1 rfl (hb ok.2.2.1 hd) rfl k) (H T L X N e)
theorem W.lsub (ok : Ok Z K y code maxL ret) {x z : Int64} (hd : decode code pc = .ok (.lsub, 1)) (pc' : Nat) (H : W l Z R K Q h cc ss pc' ls (.long (x - z) :: st)) (hp : pc + 1 = pc' := by rfl) : W l Z R K Q h cc ss pc ls (.long z :: .long x :: st) := by
  subst hp
  exact fun T L X N e => Ends.step (fun t k => XS.lsub X.here ok.1 rfl (hb ok.2.2.1 hd) rfl k) (H T L X N e)
theorem W.lmul (ok : Ok Z K y code maxL ret) {x z : Int64} (hd : decode code pc = .ok (.lmul, 1)) (pc' : Nat) (H : W l Z R K Q h cc ss pc' ls (.long (x * z) :: st)) (hp : pc + 1 = pc' := by rfl) : W l Z R K Q h cc ss pc ls (.long z :: .long x :: st) := by
  subst hp
  exact fun T L X N e => Ends.step (fun t k => XS.lmul X.here ok.1 rfl (hb ok.2.2.1 hd) rfl k) (H T L X N e)
theorem W.land (ok : Ok Z K y code maxL ret) {x z : Int64} (hd : decode code pc = .ok (.land, 1)) (pc' : Nat) (H : W l Z R K Q h cc ss pc' ls (.long (x &&& z) :: st)) (hp : pc + 1 = pc' := by rfl) : W l Z R K Q h cc ss pc ls (.long z :: .long x :: st) := by
  subst hp
  exact fun T L X N e => Ends.step (fun t k => XS.land X.here ok.1 rfl (hb ok.2.2.1 hd) rfl k) (H T L X N e)
theorem W.lor (ok : Ok Z K y code maxL ret) {x z : Int64} (hd : decode code pc = .ok (.lor, 1)) (pc' : Nat) (H : W l Z R K Q h cc ss pc' ls (.long (x ||| z) :: st)) (hp : pc + 1 = pc' := by rfl) : W l Z R K Q h cc ss pc ls (.long z :: .long x :: st) := by
  subst hp
  exact fun T L X N e => Ends.step (fun t k => XS.lor X.here ok.1 rfl (hb ok.2.2.1 hd) rfl k) (H T L X N e)
theorem W.lxor (ok : Ok Z K y code maxL ret) {x z : Int64} (hd : decode code pc = .ok (.lxor, 1)) (pc' : Nat) (H : W l Z R K Q h cc ss pc' ls (.long (x ^^^ z) :: st)) (hp : pc + 1 = pc' := by rfl) : W l Z R K Q h cc ss pc ls (.long z :: .long x :: st) := by
  subst hp
  exact fun T L X N e => Ends.step (fun t k => XS.lxor X.here ok.1 rfl (hb ok.2.2.1 hd) rfl k) (H T L X N e)
theorem W.lshl (ok : Ok Z K y code maxL ret) {x : Int64} {z : Int32} (hd : decode code pc = .ok (.lshl, 1)) (pc' : Nat) (H : W l Z R K Q h cc ss pc' ls (.long (x <<< (z &&& 0x3f).toInt64) :: st)) (hp : pc + 1 = pc' := by rfl) : W l Z R K Q h cc ss pc ls (.int z :: .long x :: st) := by
  subst hp
  exact fun T L X N e => Ends.step (fun t k => XS.lshl X.here ok.1 rfl (hb ok.2.2.1 hd) rfl k) (H T L X N e)
theorem W.lshr (ok : Ok Z K y code maxL ret) {x : Int64} {z : Int32} (hd : decode code pc = .ok (.lshr, 1)) (pc' : Nat) (H : W l Z R K Q h cc ss pc' ls (.long (x >>> (z &&& 0x3f).toInt64) :: st)) (hp : pc + 1 = pc' := by rfl) : W l Z R K Q h cc ss pc ls (.int z :: .long x :: st) := by
  subst hp
  exact fun T L X N e => Ends.step (fun t k => XS.lshr X.here ok.1 rfl (hb ok.2.2.1 hd) rfl k) (H T L X N e)
theorem W.lushr (ok : Ok Z K y code maxL ret) {x : Int64} {z : Int32} (hd : decode code pc = .ok (.lushr, 1)) (pc' : Nat) (H : W l Z R K Q h cc ss pc' ls (.long ((x.toUInt64 >>> (z &&& 0x3f).toInt64.toUInt64).toInt64) :: st)) (hp : pc + 1 = pc' := by rfl) : W l Z R K Q h cc ss pc ls (.int z :: .long x :: st) := by
  subst hp
  exact fun T L X N e => Ends.step (fun t k => XS.lushr X.here ok.1 rfl (hb ok.2.2.1 hd) rfl k) (H T L X N e)
theorem W.idiv (ok : Ok Z K y code maxL ret) {x z : Int32} (hd : decode code pc = .ok (.idiv, 1)) (pc' : Nat) (hz : z ≠ 0) (H : W l Z R K Q h cc ss pc' ls (.int (x / z) :: st)) (hp : pc + 1 = pc' := by rfl) : W l Z R K Q h cc ss pc ls (.int z :: .int x :: st) := by
  subst hp
  exact fun T L X N e => Ends.step (fun t k => XS.idiv X.here ok.1 rfl (hb ok.2.2.1 hd) rfl hz k) (H T L X N e)
theorem W.irem (ok : Ok Z K y code maxL ret) {x z : Int32} (hd : decode code pc = .ok (.irem, 1)) (pc' : Nat) (hz : z ≠ 0) (H : W l Z R K Q h cc ss pc' ls (.int (x % z) :: st)) (hp : pc + 1 = pc' := by rfl) : W l Z R K Q h cc ss pc ls (.int z :: .int x :: st) := by
  subst hp
  exact fun T L X N e => Ends.step (fun t k => iremM X ok.1 rfl (hb ok.2.2.1 hd) rfl hz k) (H T L X N e)
theorem W.ineg (ok : Ok Z K y code maxL ret) {x : Int32} (hd : decode code pc = .ok (.ineg, 1)) (pc' : Nat) (H : W l Z R K Q h cc ss pc' ls (.int (-x) :: st)) (hp : pc + 1 = pc' := by rfl) : W l Z R K Q h cc ss pc ls (.int x :: st) := by
  subst hp
  exact fun T L X N e => Ends.step (fun t k => XS.ineg X.here ok.1 rfl (hb ok.2.2.1 hd) rfl k) (H T L X N e)
theorem W.inegV (ok : Ok Z K y code maxL ret) {x : Int32} (hd : decode code pc = .ok (.ineg, 1)) (pc' : Nat) (v : Int32) (hv : -x = v) (H : W l Z R K Q h cc ss pc' ls (.int v :: st)) (hp : pc + 1 = pc' := by rfl) : W l Z R K Q h cc ss pc ls (.int x :: st) := by
  subst hp
  subst hv
  exact fun T L X N e => Ends.step (fun t k => XS.ineg X.here ok.1 rfl (hb ok.2.2.1 hd) rfl k) (H T L X N e)
theorem W.i2b (ok : Ok Z K y code maxL ret) {x : Int32} (hd : decode code pc = .ok (.i2b, 1)) (pc' : Nat) (H : W l Z R K Q h cc ss pc' ls (.int (x.toInt8.toInt32) :: st)) (hp : pc + 1 = pc' := by rfl) : W l Z R K Q h cc ss pc ls (.int x :: st) := by
  subst hp
  exact fun T L X N e => Ends.step (fun t k => XS.i2b X.here ok.1 rfl (hb ok.2.2.1 hd) rfl k) (H T L X N e)
theorem W.i2bV (ok : Ok Z K y code maxL ret) {x : Int32} (hd : decode code pc = .ok (.i2b, 1)) (pc' : Nat) (v : Int32) (hv : x.toInt8.toInt32 = v) (H : W l Z R K Q h cc ss pc' ls (.int v :: st)) (hp : pc + 1 = pc' := by rfl) : W l Z R K Q h cc ss pc ls (.int x :: st) := by
  subst hp
  subst hv
  exact fun T L X N e => Ends.step (fun t k => XS.i2b X.here ok.1 rfl (hb ok.2.2.1 hd) rfl k) (H T L X N e)
theorem W.i2c (ok : Ok Z K y code maxL ret) {x : Int32} (hd : decode code pc = .ok (.i2c, 1)) (pc' : Nat) (H : W l Z R K Q h cc ss pc' ls (.int (x.toUInt32.toUInt16.toUInt32.toInt32) :: st)) (hp : pc + 1 = pc' := by rfl) : W l Z R K Q h cc ss pc ls (.int x :: st) := by
  subst hp
  exact fun T L X N e => Ends.step (fun t k => XS.i2c X.here ok.1 rfl (hb ok.2.2.1 hd) rfl k) (H T L X N e)
theorem W.i2cV (ok : Ok Z K y code maxL ret) {x : Int32} (hd : decode code pc = .ok (.i2c, 1)) (pc' : Nat) (v : Int32) (hv : x.toUInt32.toUInt16.toUInt32.toInt32 = v) (H : W l Z R K Q h cc ss pc' ls (.int v :: st)) (hp : pc + 1 = pc' := by rfl) : W l Z R K Q h cc ss pc ls (.int x :: st) := by
  subst hp
  subst hv
  exact fun T L X N e => Ends.step (fun t k => XS.i2c X.here ok.1 rfl (hb ok.2.2.1 hd) rfl k) (H T L X N e)
theorem W.i2s (ok : Ok Z K y code maxL ret) {x : Int32} (hd : decode code pc = .ok (.i2s, 1)) (pc' : Nat) (H : W l Z R K Q h cc ss pc' ls (.int (x.toInt16.toInt32) :: st)) (hp : pc + 1 = pc' := by rfl) : W l Z R K Q h cc ss pc ls (.int x :: st) := by
  subst hp
  exact fun T L X N e => Ends.step (fun t k => XS.i2s X.here ok.1 rfl (hb ok.2.2.1 hd) rfl k) (H T L X N e)
theorem W.i2sV (ok : Ok Z K y code maxL ret) {x : Int32} (hd : decode code pc = .ok (.i2s, 1)) (pc' : Nat) (v : Int32) (hv : x.toInt16.toInt32 = v) (H : W l Z R K Q h cc ss pc' ls (.int v :: st)) (hp : pc + 1 = pc' := by rfl) : W l Z R K Q h cc ss pc ls (.int x :: st) := by
  subst hp
  subst hv
  exact fun T L X N e => Ends.step (fun t k => XS.i2s X.here ok.1 rfl (hb ok.2.2.1 hd) rfl k) (H T L X N e)
theorem W.i2l (ok : Ok Z K y code maxL ret) {x : Int32} (hd : decode code pc = .ok (.i2l, 1)) (pc' : Nat) (H : W l Z R K Q h cc ss pc' ls (.long (x.toInt64) :: st)) (hp : pc + 1 = pc' := by rfl) : W l Z R K Q h cc ss pc ls (.int x :: st) := by
  subst hp
  exact fun T L X N e => Ends.step (fun t k => XS.i2l X.here ok.1 rfl (hb ok.2.2.1 hd) rfl k) (H T L X N e)
theorem W.l2i (ok : Ok Z K y code maxL ret) {x : Int64} (hd : decode code pc = .ok (.l2i, 1)) (pc' : Nat) (H : W l Z R K Q h cc ss pc' ls (.int (x.toInt32) :: st)) (hp : pc + 1 = pc' := by rfl) : W l Z R K Q h cc ss pc ls (.long x :: st) := by
  subst hp
  exact fun T L X N e => Ends.step (fun t k => XS.l2i X.here ok.1 rfl (hb ok.2.2.1 hd) rfl k) (H T L X N e)
theorem W.lneg (ok : Ok Z K y code maxL ret) {x : Int64} (hd : decode code pc = .ok (.lneg, 1)) (pc' : Nat) (H : W l Z R K Q h cc ss pc' ls (.long (-x) :: st)) (hp : pc + 1 = pc' := by rfl) : W l Z R K Q h cc ss pc ls (.long x :: st) := by
  subst hp
  exact fun T L X N e => Ends.step (fun t k => XS.lneg X.here ok.1 rfl (hb ok.2.2.1 hd) rfl k) (H T L X N e)
theorem W.iinc (ok : Ok Z K y code maxL ret) {k : Nat} {cst : Int} {x : Int32} (hd : decode code pc = .ok (.iinc k cst, 3)) (pc' : Nat) (v : Int32) (ls' : Array Slot) (hl : ls[k]? = some (.val (.int x))) (hv : x + Int32.ofInt cst = v) (hl' : storeLocals ls k (.int v) = some ls') (H : W l Z R K Q h cc ss pc' ls' (st)) (hp : pc + 3 = pc' := by rfl) : W l Z R K Q h cc ss pc ls (st) := by
  subst hp
  subst hv
  exact fun T L X N e => Ends.step (fun t k => XS.iinc X.here ok.1 rfl (hb ok.2.2.1 hd) hl hl' k) (H T L X N e)
theorem W.dup (ok : Ok Z K y code maxL ret) {v : Value} (hd : decode code pc = .ok (.dup, 1)) (pc' : Nat) (hv : v.category = 1) (H : W l Z R K Q h cc ss pc' ls (v :: v :: st)) (hp : pc + 1 = pc' := by rfl) : W l Z R K Q h cc ss pc ls (v :: st) := by
  subst hp
  exact fun T L X N e => Ends.step (fun t k => XS.dup X.here ok.1 rfl (hb ok.2.2.1 hd) rfl hv k) (H T L X N e)
theorem W.dupX1 (ok : Ok Z K y code maxL ret) {v w : Value} (hd : decode code pc = .ok (.dup_x1, 1)) (pc' : Nat) (hv : v.category = 1) (hw : w.category = 1) (H : W l Z R K Q h cc ss pc' ls (v :: w :: v :: st)) (hp : pc + 1 = pc' := by rfl) : W l Z R K Q h cc ss pc ls (v :: w :: st) := by
  subst hp
  exact fun T L X N e => Ends.step (fun t k => XS.dupX1 X.here ok.1 rfl (hb ok.2.2.1 hd) rfl hv hw k) (H T L X N e)
theorem W.pop (ok : Ok Z K y code maxL ret) {v : Value} (hd : decode code pc = .ok (.pop, 1)) (pc' : Nat) (hv : v.category = 1) (H : W l Z R K Q h cc ss pc' ls (st)) (hp : pc + 1 = pc' := by rfl) : W l Z R K Q h cc ss pc ls (v :: st) := by
  subst hp
  exact fun T L X N e => Ends.step (fun t k => XS.pop X.here ok.1 rfl (hb ok.2.2.1 hd) rfl hv k) (H T L X N e)
theorem W.goto (ok : Ok Z K y code maxL ret) {o : Int} (hd : decode code pc = .ok (.goto o, 3)) (pc' : Nat) (H : W l Z R K Q h cc ss pc' ls st) (ho : 0 ≤ (pc : Int) + o := by decide) (hp : ((pc : Int) + o).toNat = pc' := by decide) : W l Z R K Q h cc ss pc ls st :=
  fun T L X N e => Ends.step (fun t k => XS.goto X.here ok.1 rfl (pc0 := pc) (pc' := pc') rfl (hb ok.2.2.1 hd) ho hp k) (H T L X N e)
theorem W.icmpT (ok : Ok Z K y code maxL ret) {cd : ClassFile.Cond} {x z : Int32} {o : Int} (hd : decode code pc = .ok (.if_icmp cd o, 3)) (pc' : Nat) (hc : cdT cd x z) (H : W l Z R K Q h cc ss pc' ls st) (ho : 0 ≤ (pc : Int) + o := by decide) (hp : ((pc : Int) + o).toNat = pc' := by decide) : W l Z R K Q h cc ss pc ls (.int z :: .int x :: st) :=
  fun T L X N e => Ends.step (fun t k => XS.icmpYes X.here ok.1 rfl (pc0 := pc) (pc' := pc') rfl (hb ok.2.2.1 hd) rfl (cd_t hc) ho hp k) (H T L X N e)
theorem W.icmpF (ok : Ok Z K y code maxL ret) {cd : ClassFile.Cond} {x z : Int32} {o : Int} (hd : decode code pc = .ok (.if_icmp cd o, 3)) (pc' : Nat) (hc : cdF cd x z) (H : W l Z R K Q h cc ss pc' ls st) (hp : pc + 3 = pc' := by rfl) : W l Z R K Q h cc ss pc ls (.int z :: .int x :: st) := by
  subst hp
  exact fun T L X N e => Ends.step (fun t k => XS.icmpNo X.here ok.1 rfl (hb ok.2.2.1 hd) rfl (cd_f hc) k) (H T L X N e)
theorem W.icmp (ok : Ok Z K y code maxL ret) {cd : ClassFile.Cond} {x z : Int32} {o : Int} (hd : decode code pc = .ok (.if_icmp cd o, 3)) (pcT pcF : Nat) (HT : cdT cd x z → W l Z R K Q h cc ss pcT ls st) (HF : cdF cd x z → W l Z R K Q h cc ss pcF ls st) (ho : 0 ≤ (pc : Int) + o := by decide) (hp : ((pc : Int) + o).toNat = pcT := by decide) (hq : pc + 3 = pcF := by rfl) : W l Z R K Q h cc ss pc ls (.int z :: .int x :: st) :=
  (cd_or cd x z).elim (fun hc => W.icmpT ok hd pcT hc (HT hc) ho hp) (fun hc => W.icmpF ok hd pcF hc (HF hc) hq)
theorem W.ifT (ok : Ok Z K y code maxL ret) {cd : ClassFile.Cond} {x : Int32} {o : Int} (hd : decode code pc = .ok (.ifCond cd o, 3)) (pc' : Nat) (hc : cdT cd x 0) (H : W l Z R K Q h cc ss pc' ls st) (ho : 0 ≤ (pc : Int) + o := by decide) (hp : ((pc : Int) + o).toNat = pc' := by decide) : W l Z R K Q h cc ss pc ls (.int x :: st) :=
  fun T L X N e => Ends.step (fun t k => XS.ifYes X.here ok.1 rfl (pc0 := pc) (pc' := pc') rfl (hb ok.2.2.1 hd) rfl ((if0 _ _).trans (cd_t hc)) ho hp k) (H T L X N e)
theorem W.ifF (ok : Ok Z K y code maxL ret) {cd : ClassFile.Cond} {x : Int32} {o : Int} (hd : decode code pc = .ok (.ifCond cd o, 3)) (pc' : Nat) (hc : cdF cd x 0) (H : W l Z R K Q h cc ss pc' ls st) (hp : pc + 3 = pc' := by rfl) : W l Z R K Q h cc ss pc ls (.int x :: st) := by
  subst hp
  exact fun T L X N e => Ends.step (fun t k => XS.ifNo X.here ok.1 rfl (hb ok.2.2.1 hd) rfl ((if0 _ _).trans (cd_f hc)) k) (H T L X N e)
theorem W.iff (ok : Ok Z K y code maxL ret) {cd : ClassFile.Cond} {x : Int32} {o : Int} (hd : decode code pc = .ok (.ifCond cd o, 3)) (pcT pcF : Nat) (HT : cdT cd x 0 → W l Z R K Q h cc ss pcT ls st) (HF : cdF cd x 0 → W l Z R K Q h cc ss pcF ls st) (ho : 0 ≤ (pc : Int) + o := by decide) (hp : ((pc : Int) + o).toNat = pcT := by decide) (hq : pc + 3 = pcF := by rfl) : W l Z R K Q h cc ss pc ls (.int x :: st) :=
  (cd_or cd x 0).elim (fun hc => W.ifT ok hd pcT hc (HT hc) ho hp) (fun hc => W.ifF ok hd pcF hc (HF hc) hq)
theorem W.ifnullT (ok : Ok Z K y code maxL ret) {o : Int} (hd : decode code pc = .ok (.ifnull o, 3)) (pc' : Nat) (H : W l Z R K Q h cc ss pc' ls st) (ho : 0 ≤ (pc : Int) + o := by decide) (hp : ((pc : Int) + o).toNat = pc' := by decide) : W l Z R K Q h cc ss pc ls (.null :: st) :=
  fun T L X N e => Ends.step (fun t k => XS.ifnullYes X.here ok.1 rfl (pc0 := pc) (pc' := pc') rfl (hb ok.2.2.1 hd) rfl ho hp k) (H T L X N e)
theorem W.ifnullF (ok : Ok Z K y code maxL ret) {o : Int} {a : Addr} (hd : decode code pc = .ok (.ifnull o, 3)) (pc' : Nat) (H : W l Z R K Q h cc ss pc' ls st) (hp : pc + 3 = pc' := by rfl) : W l Z R K Q h cc ss pc ls (.ref a :: st) := by
  subst hp
  exact fun T L X N e => Ends.step (fun t k => XS.ifnullNo X.here ok.1 rfl (hb ok.2.2.1 hd) rfl k) (H T L X N e)
theorem W.ifnonnullT (ok : Ok Z K y code maxL ret) {o : Int} {a : Addr} (hd : decode code pc = .ok (.ifnonnull o, 3)) (pc' : Nat) (H : W l Z R K Q h cc ss pc' ls st) (ho : 0 ≤ (pc : Int) + o := by decide) (hp : ((pc : Int) + o).toNat = pc' := by decide) : W l Z R K Q h cc ss pc ls (.ref a :: st) :=
  fun T L X N e => Ends.step (fun t k => XS.ifnonnullYes X.here ok.1 rfl (pc0 := pc) (pc' := pc') rfl (hb ok.2.2.1 hd) rfl ho hp k) (H T L X N e)
theorem W.ifnonnullF (ok : Ok Z K y code maxL ret) {o : Int} (hd : decode code pc = .ok (.ifnonnull o, 3)) (pc' : Nat) (H : W l Z R K Q h cc ss pc' ls st) (hp : pc + 3 = pc' := by rfl) : W l Z R K Q h cc ss pc ls (.null :: st) := by
  subst hp
  exact fun T L X N e => Ends.step (fun t k => XS.ifnonnullNo X.here ok.1 rfl (hb ok.2.2.1 hd) rfl k) (H T L X N e)
theorem W.acmp (ok : Ok Z K y code maxL ret) {cd : ACond} {v w : Value} {o : Int} (hd : decode code pc = .ok (.if_acmp cd o, 3)) (pc' : Nat) (same : Bool) (hq : decide (v = w) = same) (H : W l Z R K Q h cc ss pc' ls st) (hv : v.isRef = true := by rfl) (hw : w.isRef = true := by rfl) (ho : 0 ≤ (pc : Int) + o := by decide) (hp : pc' = if acV cd same = true then ((pc : Int) + o).toNat else pc + 3 := by decide) : W l Z R K Q h cc ss pc ls (w :: v :: st) :=
  fun T L X N e => Ends.step (fun t k => Jvm.RoadKit.acmp (g := mkF K.m pc ls (w :: v :: st)) X ok.1 rfl hv hw (pc0 := pc) (pc' := pc') rfl (hb ok.2.2.1 hd) rfl hq ho hp k) (H T L X N e)
theorem tb_of {tb : ∀ d ∈ ts, d.before a0 Z = true} {i : Nat} {d : Jvm.Cond} (w : ts[i]? = some d) : d.before a0 Z = true := tb d (List.mem_of_getElem? w)
theorem W.ldc (ok : Ok Z K y code maxL ret) (tb : ∀ d ∈ ts, d.before a0 Z = true) (i : Nat) {idx : Nat} {v : Int32} (w : ts[i]? = some (.constant y.cls idx v)) (hd : decode code pc = .ok (.ldc idx, 2)) (pc' : Nat) (H : W l Z R K Q h cc ss pc' ls (.int v :: st)) (hp : pc + 2 = pc' := by rfl) : W l Z R K Q h cc ss pc ls st := by
  subst hp
  exact fun T L X N e => Ends.step (fun t k => X.ldcInt ok.1 ok.2.2.2.2.1 (mvT ok.2.1 (tb _ (List.mem_of_getElem? w))) (g := mkF K.m pc ls st) rfl (hb ok.2.2.1 hd) _ k) (H T L X N e)
theorem W.ldcw (ok : Ok Z K y code maxL ret) (tb : ∀ d ∈ ts, d.before a0 Z = true) (i : Nat) {idx : Nat} {v : Int32} (w : ts[i]? = some (.constant y.cls idx v)) (hd : decode code pc = .ok (.ldc_w idx, 3)) (pc' : Nat) (H : W l Z R K Q h cc ss pc' ls (.int v :: st)) (hp : pc + 3 = pc' := by rfl) : W l Z R K Q h cc ss pc ls st := by
  subst hp
  exact fun T L X N e => Ends.step (fun t k => X.ldcwInt ok.1 ok.2.2.2.2.1 (mvT ok.2.1 (tb _ (List.mem_of_getElem? w))) (g := mkF K.m pc ls st) rfl (hb ok.2.2.1 hd) _ k) (H T L X N e)

/-! returns -/
theorem W.retA {t : FieldType} (ok : Ok Z K y code maxL (some t)) {w : Value} {i : Instr} (hd : decode code pc = .ok (i, 1)) (hn : narrow t w = w)
    (hi : (i = .ireturn ∧ (t = .int ∨ t = .boolean ∨ t = .byte ∨ t = .char ∨ t = .short) ∧ ∃ z, w = .int z) ∨ (i = .lreturn ∧ t = .long ∧ ∃ z, w = .long z) ∨ (i = .dreturn ∧ t = .double ∧ ∃ z, w = .double z) ∨ (i = .freturn ∧ t = .float ∧ ∃ z, w = .float z) ∨ (i = .areturn ∧ t.isReference = true ∧ w.isRef = true))
    (HQ : Q (some w) h) (hc : cc ≤ R.cells) (hs : ss ≤ R.slots) : W l Z R K Q h cc ss pc ls (w :: st) := by
  intro T L X N e
  obtain ⟨fs, hr, hrun, hended, hW, hsame⟩ := X.leave (v := some w) (fun q => by rw [ok.2.2.2.2.2.1] at q; cases q) ok.2.2.2.2.2.2.2.1
  exact ⟨_, _, retOut X ok.1 ok.2.2.2.2.2.1 hn hi (hb ok.2.2.1 hd) hr, hrun, hended, _, L, rfl, ⟨by show Q (some w) T.heap; rw [e]; exact HQ, N⟩, ok.2.2.2.2.2.2.2.2 _ _ _ _ _ ⟨⟨_, rfl⟩, hW, hsame.mono hc hs⟩⟩
theorem W.iret {t : FieldType} (ok : Ok Z K y code maxL (some t)) {v : Int32} (hd : decode code pc = .ok (.ireturn, 1)) (hn : narrow t (.int v) = .int v) (HQ : Q (some (.int v)) h)
    (ht : t = .int ∨ t = .boolean ∨ t = .byte ∨ t = .char ∨ t = .short := by simp) (hc : cc ≤ R.cells := by decide) (hs : ss ≤ R.slots := by decide) : W l Z R K Q h cc ss pc ls (.int v :: st) :=
  W.retA ok hd hn (Or.inl ⟨rfl, ht, _, rfl⟩) HQ hc hs
theorem W.aret {t : FieldType} (ok : Ok Z K y code maxL (some t)) {w : Value} (hd : decode code pc = .ok (.areturn, 1)) (HQ : Q (some w) h) (hn : narrow t w = w := by rfl)
    (ht : t.isReference = true := by rfl) (hw : w.isRef = true := by rfl) (hc : cc ≤ R.cells := by decide) (hs : ss ≤ R.slots := by decide) : W l Z R K Q h cc ss pc ls (w :: st) :=
  W.retA ok hd hn (Or.inr (Or.inr (Or.inr (Or.inr ⟨rfl, ht, hw⟩)))) HQ hc hs
theorem W.vret (ok : Ok Z K y code maxL none) (hd : decode code pc = .ok (.return_, 1)) (HQ : Q none h) (hc : cc ≤ R.cells := by decide) (hs : ss ≤ R.slots := by decide) : W l Z R K Q h cc ss pc ls [] := by
  intro T L X N e
  obtain ⟨fs, hr, hrun, hended, hW, hsame⟩ := X.leave (v := none) (fun q => rfl) ok.2.2.2.2.2.2.2.1
  exact ⟨_, _, X.returnOut ok.1 ok.2.2.2.2.2.1 (hb ok.2.2.1 hd) hr, hrun, hended, _, L, rfl, ⟨by show Q none T.heap; rw [e]; exact HQ, N⟩, ok.2.2.2.2.2.2.2.2 _ _ _ _ _ ⟨⟨_, rfl⟩, hW, hsame.mono hc hs⟩⟩
/-! calls -/
abbrev Tb (Z : State) (a0 : Array Value) (ts : List Jvm.Cond) : Prop := ∀ d ∈ ts, d.before a0 Z = true
theorem W.callS (ok : Ok Z K y code maxL ret) (tb : Tb Z a0 ts) {idx : Nat} {z : MethodName} {code' : ByteArray} {maxL' : Nat} {ret' : Option FieldType} {rm : Room} {Q' : Option Value → Heap → Prop} {ps : List FieldType} {rt : Option FieldType} {argsL rest : List Value}
    (i1 i2 i3 i4 : Nat) (w1 : ts[i1]? = some (.methodLink y.cls idx z)) (w2 : ts[i2]? = some (.static z)) (w3 : ts[i3]? = some (.initialized z.cls)) (w4 : ts[i4]? = some (.code z code' maxL' ret'))
    (hd : decode code pc = .ok (.invokestatic idx, 3)) (hpd : parseMethodDescriptor z.desc = some ⟨ps, rt⟩) (con : Con l Z z code' maxL' ret' rm argsL.toArray h Q') (wgt cc' ss' pc' : Nat)
    (H : ∀ v h', Q' v h' → W l Z R K Q h' cc' ss' pc' ls (v.toList ++ rest))
    (hm : z.cls ≠ "java/lang/invoke/MethodHandle" ∧ z.cls ≠ "java/lang/invoke/VarHandle" := by decide) (hlen : argsL.length = ps.length := by rfl) (hst : st = argsL.reverse ++ rest := by rfl) (hW : (rest.map fun v => v.category).sum ≤ wgt := by exact Nat.le_refl _)
    (hf : rm.frames + 1 ≤ R.frames := by decide) (hl : wgt + (maxL' + 11) + rm.locals ≤ R.locals := by decide) (hc : cc' ≤ R.cells := by decide) (hs : ss' ≤ R.slots := by decide) (hc' : cc + rm.cells = cc' := by rfl) (hs' : ss + rm.slots = ss' := by rfl) (hsz : ls.size = maxL := by rfl) (hp : pc + 3 = pc' := by rfl) :
    W l Z R K Q h cc ss pc ls st := by
  subst hst hc' hs' hp
  intro T L X N e
  obtain ⟨v, _, ⟨T', L', k', n'⟩, -, X', ⟨Lc, hQ, l1, l2, l3⟩, stp⟩ := Jvm.LawKit.callS X ok.1 (y := z) ok.2.2.2.2.1 (mvT ok.2.1 (tb _ (List.mem_of_getElem? w1))) (mvT ok.2.1 (tb _ (List.mem_of_getElem? w2))) (mvT ok.2.1 (tb _ (List.mem_of_getElem? w3))) (mvT ok.2.1 (tb _ (List.mem_of_getElem? w4))) hm
    (backOf (W := wgt) (Q := fun v h L => Q' v h ∧ Fr Z.heap.size L) (con []) ok.2.1 (tb _ (List.mem_of_getElem? w4)) (tb _ (List.mem_of_getElem? w3)) hf hl) (g := mkF K.m pc ls (argsL.reverse ++ rest)) rfl (hsz.trans ok.2.2.2.1.symm) (argsL := argsL) (rest := rest) (lenOf hpd hlen) rfl (by simpa using hW) (hb ok.2.2.1 hd) (fun _ _ => ⟨rfl, e, hc, hs⟩)
  dsimp only [Pt.U, Pt.locs, Pt.cells, Pt.slots] at X' l1 l2 l3 stp hQ
  subst l1 l2 l3
  exact Ends.step stp (H v T'.heap hQ.1 T' _ X' (N.app hQ.2) rfl)
theorem W.callI (ok : Ok Z K y code maxL ret) (tb : Tb Z a0 ts) {idx : Nat} {z : MethodName} {code' : ByteArray} {maxL' : Nat} {rm : Room} {Q' : Option Value → Heap → Prop} {ps : List FieldType} {rt : Option FieldType} {a : Addr} {argsL rest : List Value}
    (i1 i2 i3 i4 : Nat) (w1 : ts[i1]? = some (.methodLink y.cls idx z)) (w2 : ts[i2]? = some (.instanceMethod z)) (w3 : ts[i3]? = some (.initialized z.cls)) (w4 : ts[i4]? = some (.code z code' maxL' none))
    (hd : decode code pc = .ok (.invokespecial idx, 3)) (hpd : parseMethodDescriptor z.desc = some ⟨ps, rt⟩) (con : Con l Z z code' maxL' none rm (.ref a :: argsL).toArray h Q') (wgt cc' ss' pc' : Nat)
    (H : ∀ v h', Q' v h' → W l Z R K Q h' cc' ss' pc' ls (v.toList ++ rest))
    (hnm : z.name = "<init>" := by rfl) (hm : z.cls ≠ "java/lang/invoke/MethodHandle" ∧ z.cls ≠ "java/lang/invoke/VarHandle" := by decide) (hlen : argsL.length = ps.length := by rfl) (hst : st = argsL.reverse ++ .ref a :: rest := by rfl) (hW : (rest.map fun v => v.category).sum ≤ wgt := by exact Nat.le_refl _)
    (hf : rm.frames + 1 ≤ R.frames := by decide) (hl : wgt + (maxL' + 11) + rm.locals ≤ R.locals := by decide) (hc : cc' ≤ R.cells := by decide) (hs : ss' ≤ R.slots := by decide) (hc' : cc + rm.cells = cc' := by rfl) (hs' : ss + rm.slots = ss' := by rfl) (hsz : ls.size = maxL := by rfl) (hp : pc + 3 = pc' := by rfl) :
    W l Z R K Q h cc ss pc ls st := by
  subst hst hc' hs' hp
  intro T L X N e
  obtain ⟨v, _, ⟨T', L', k', n'⟩, -, X', ⟨Lc, hQ, l1, l2, l3⟩, stp⟩ := X.specialBack ok.1 (y := z) hnm ok.2.2.2.2.1 (mvT ok.2.1 (tb _ (List.mem_of_getElem? w1))) (mvT ok.2.1 (tb _ (List.mem_of_getElem? w2))) (mvT ok.2.1 (tb _ (List.mem_of_getElem? w4))) hm
    (backOf (W := wgt) (Q := fun v h L => Q' v h ∧ Fr Z.heap.size L) (con []) ok.2.1 (tb _ (List.mem_of_getElem? w4)) (tb _ (List.mem_of_getElem? w3)) hf hl) (g := mkF K.m pc ls (argsL.reverse ++ .ref a :: rest)) rfl (hsz.trans ok.2.2.2.1.symm) (Steps.refl _) (a := a) (argsL := argsL) (rest := rest) (lenOf hpd hlen) rfl (by simpa using hW) (hb ok.2.2.1 hd) (fun _ _ => ⟨rfl, e, hc, hs⟩)
  dsimp only [Pt.U, Pt.locs, Pt.cells, Pt.slots] at X' l1 l2 l3 stp hQ
  subst l1 l2 l3
  exact Ends.step (fun t k => stp.trans k) (H v T'.heap hQ.1 T' _ X' (N.app hQ.2) rfl)
theorem W.initO (ok : Ok Z K y code maxL ret) (tb : Tb Z a0 ts) {idx : Nat} {a : Addr} (i1 i2 i3 : Nat) (w1 : ts[i1]? = some (.methodLink y.cls idx Lib.objectInit)) (w2 : ts[i2]? = some (.instanceMethod Lib.objectInit)) (w3 : ts[i3]? = some (.code Lib.objectInit ⟨#[0xb1]⟩ 1 none))
    (hd : decode code pc = .ok (.invokespecial idx, 3)) (wgt pc' : Nat) (H : W l Z R K Q h cc ss pc' ls st) (hW : (st.map fun v => v.category).sum ≤ wgt := by exact Nat.le_refl _) (hf : 1 ≤ R.frames := by decide) (hl : wgt + 12 ≤ R.locals := by decide) (hsz : ls.size = maxL := by rfl) (hp : pc + 3 = pc' := by rfl) :
    W l Z R K Q h cc ss pc ls (.ref a :: st) := by
  subst hp
  intro T L X N e
  obtain ⟨T', X', e', stp⟩ := Jvm.RoadKit.initO X ok.1 ok.2.1 ok.2.2.2.2.1 (tb _ (List.mem_of_getElem? w1)) (tb _ (List.mem_of_getElem? w2)) (tb _ (List.mem_of_getElem? w3)) e (g := mkF K.m pc ls (.ref a :: st)) rfl (hsz.trans ok.2.2.2.1.symm) rfl (hb ok.2.2.1 hd) hf (W := wgt) (by simpa using hW) hl
  exact Ends.step stp (H T' _ X' N e')
theorem W.callV (ok : Ok Z K y code maxL ret) (tb : Tb Z a0 ts) {idx : Nat} {z z' : MethodName} {C : String} {code' : ByteArray} {maxL' : Nat} {ret' : Option FieldType} {rm : Room} {Q' : Option Value → Heap → Prop} {ps : List FieldType} {rt : Option FieldType} {a : Addr} {argsL rest : List Value}
    (i1 i2 i3 i4 i5 i6 : Nat) (w1 : ts[i1]? = some (.methodLink y.cls idx z)) (w2 : ts[i2]? = some (.declares z)) (w3 : ts[i3]? = some (.selects C z z')) (w4 : ts[i4]? = some (.instanceMethod z')) (w5 : ts[i5]? = some (.code z' code' maxL' ret')) (w6 : ts[i6]? = some (.initialized z'.cls))
    (nf : NotFace K.s z) (E : Exa Z h a C)
    (hd : decode code pc = .ok (.invokevirtual idx, 3)) (hpd : parseMethodDescriptor z.desc = some ⟨ps, rt⟩) (con : Con l Z z' code' maxL' ret' rm (.ref a :: argsL).toArray h Q') (wgt cc' ss' pc' : Nat)
    (H : ∀ v h', Q' v h' → W l Z R K Q h' cc' ss' pc' ls (v.toList ++ rest))
    (hm : z.cls ≠ "java/lang/invoke/MethodHandle" ∧ z.cls ≠ "java/lang/invoke/VarHandle" := by decide) (hlen : argsL.length = ps.length := by rfl) (hst : st = argsL.reverse ++ .ref a :: rest := by rfl) (hW : (rest.map fun v => v.category).sum ≤ wgt := by exact Nat.le_refl _)
    (hf : rm.frames + 1 ≤ R.frames := by decide) (hl : wgt + (maxL' + 11) + rm.locals ≤ R.locals := by decide) (hc : cc' ≤ R.cells := by decide) (hs : ss' ≤ R.slots := by decide) (hc' : cc + rm.cells = cc' := by rfl) (hs' : ss + rm.slots = ss' := by rfl) (hsz : ls.size = maxL := by rfl) (hp : pc + 3 = pc' := by rfl) :
    W l Z R K Q h cc ss pc ls st := by
  subst hst hc' hs' hp
  intro T L X N e
  obtain ⟨cq, kq, qa, qb, qc⟩ := isOf (T := T) ok.2.1 e E
  obtain ⟨v, _, ⟨T', L', k', n'⟩, -, X', ⟨Lc, hQ, l1, l2, l3⟩, stp⟩ := X.virtualBack ok.1 (y := z) (z := z') ok.2.2.2.2.1 (mvT ok.2.1 (tb _ (List.mem_of_getElem? w1))) (mvT ok.2.1 (tb _ (List.mem_of_getElem? w2))) nf (mvT ok.2.1 (tb _ (List.mem_of_getElem? w3))) (mvT ok.2.1 (tb _ (List.mem_of_getElem? w4))) hm
    (backOf (W := wgt) (Q := fun v h L => Q' v h ∧ Fr Z.heap.size L) (con []) ok.2.1 (tb _ (List.mem_of_getElem? w5)) (tb _ (List.mem_of_getElem? w6)) hf hl) qa qc (g := mkF K.m pc ls (argsL.reverse ++ .ref a :: rest)) rfl (hsz.trans ok.2.2.2.1.symm) (Steps.refl _) (argsL := argsL) (rest := rest) (lenOf hpd hlen) rfl (by simpa using hW) (hb ok.2.2.1 hd) (fun _ _ => ⟨rfl, e, hc, hs⟩)
  dsimp only [Pt.U, Pt.locs, Pt.cells, Pt.slots] at X' l1 l2 l3 stp hQ
  subst l1 l2 l3
  exact Ends.step (fun t k => stp.trans k) (H v T'.heap hQ.1 T' _ X' (N.app hQ.2) rfl)
theorem W.callU (ok : Ok Z K y code maxL ret) (tb : Tb Z a0 ts) {idx : Nat} {z z' : MethodName} {C owner : String} {code' : ByteArray} {maxL' : Nat} {ret' : Option FieldType} {rm : Room} {Q' : Option Value → Heap → Prop} {ps : List FieldType} {rt : Option FieldType} {a : Addr} {argsL rest : List Value}
    (i1 i2 i3 i4 i5 i6 i7 : Nat) (w1 : ts[i1]? = some (.methodLink y.cls idx z)) (w2 : ts[i2]? = some (.declares ⟨owner, z.name, z.desc⟩)) (w3 : ts[i3]? = some (.selects C z z')) (w4 : ts[i4]? = some (.instanceMethod z')) (w5 : ts[i5]? = some (.code z' code' maxL' ret')) (w6 : ts[i6]? = some (.initialized z'.cls)) (w7 : ts[i7]? = some (.sameMethod z.cls owner z.name z.desc))
    (E : Exa Z h a C)
    (hd : decode code pc = .ok (.invokevirtual idx, 3)) (hpd : parseMethodDescriptor z.desc = some ⟨ps, rt⟩) (con : Con l Z z' code' maxL' ret' rm (.ref a :: argsL).toArray h Q') (wgt cc' ss' pc' : Nat)
    (H : ∀ v h', Q' v h' → W l Z R K Q h' cc' ss' pc' ls (v.toList ++ rest))
    (hm : owner ≠ "java/lang/invoke/MethodHandle" ∧ owner ≠ "java/lang/invoke/VarHandle" := by decide) (hlen : argsL.length = ps.length := by rfl) (hst : st = argsL.reverse ++ .ref a :: rest := by rfl) (hW : (rest.map fun v => v.category).sum ≤ wgt := by exact Nat.le_refl _)
    (hf : rm.frames + 1 ≤ R.frames := by decide) (hl : wgt + (maxL' + 11) + rm.locals ≤ R.locals := by decide) (hc : cc' ≤ R.cells := by decide) (hs : ss' ≤ R.slots := by decide) (hc' : cc + rm.cells = cc' := by rfl) (hs' : ss + rm.slots = ss' := by rfl) (hsz : ls.size = maxL := by rfl) (hp : pc + 3 = pc' := by rfl) :
    W l Z R K Q h cc ss pc ls st := by
  subst hst hc' hs' hp
  intro T L X N e
  obtain ⟨cq, kq, qa, qb, qc⟩ := isOf (T := T) ok.2.1 e E
  obtain ⟨v, _, ⟨T', L', k', n'⟩, -, X', ⟨Lc, hQ, l1, l2, l3⟩, stp⟩ := X.virtualBackUp ok.1 (x := z) (y := z') (owner := owner) ok.2.2.2.2.1 (mvT ok.2.1 (tb _ (List.mem_of_getElem? w1))) (mvT ok.2.1 (tb _ (List.mem_of_getElem? w7))) (mvT ok.2.1 (tb _ (List.mem_of_getElem? w2))) hm (mvT ok.2.1 (tb _ (List.mem_of_getElem? w3))) (mvT ok.2.1 (tb _ (List.mem_of_getElem? w4)))
    (backOf (W := wgt) (Q := fun v h L => Q' v h ∧ Fr Z.heap.size L) (con []) ok.2.1 (tb _ (List.mem_of_getElem? w5)) (tb _ (List.mem_of_getElem? w6)) hf hl) qa qc (g := mkF K.m pc ls (argsL.reverse ++ .ref a :: rest)) rfl (hsz.trans ok.2.2.2.1.symm) (Steps.refl _) (argsL := argsL) (rest := rest) (lenOf hpd hlen) rfl (by simpa using hW) (hb ok.2.2.1 hd) (fun _ _ => ⟨rfl, e, hc, hs⟩)
  dsimp only [Pt.U, Pt.locs, Pt.cells, Pt.slots] at X' l1 l2 l3 stp hQ
  subst l1 l2 l3
  exact Ends.step (fun t k => stp.trans k) (H v T'.heap hQ.1 T' _ X' (N.app hQ.2) rfl)
theorem W.callP (ok : Ok Z K y code maxL ret) (tb : Tb Z a0 ts) {idx : Nat} {z : MethodName} {code' : ByteArray} {maxL' : Nat} {ret' : Option FieldType} {rm : Room} {Q' : Option Value → Heap → Prop} {ps : List FieldType} {rt : Option FieldType} {a : Addr} {C : String} {argsL rest : List Value}
    (i1 i2 i3 i4 i5 i6 : Nat) (w1 : ts[i1]? = some (.methodLink y.cls idx z)) (w2 : ts[i2]? = some (.instanceMethod z)) (w3 : ts[i3]? = some (.selects z.cls z z)) (w4 : ts[i4]? = some (.privateMethod z)) (w5 : ts[i5]? = some (.code z code' maxL' ret')) (w6 : ts[i6]? = some (.initialized z.cls))
    (E : Exa Z h a C)
    (hd : decode code pc = .ok (.invokevirtual idx, 3)) (hpd : parseMethodDescriptor z.desc = some ⟨ps, rt⟩) (con : Con l Z z code' maxL' ret' rm (.ref a :: argsL).toArray h Q') (wgt cc' ss' pc' : Nat)
    (H : ∀ v h', Q' v h' → W l Z R K Q h' cc' ss' pc' ls (v.toList ++ rest))
    (hm : z.cls ≠ "java/lang/invoke/MethodHandle" ∧ z.cls ≠ "java/lang/invoke/VarHandle" := by decide) (hlen : argsL.length = ps.length := by rfl) (hst : st = argsL.reverse ++ .ref a :: rest := by rfl) (hW : (rest.map fun v => v.category).sum ≤ wgt := by exact Nat.le_refl _)
    (hf : rm.frames + 1 ≤ R.frames := by decide) (hl : wgt + (maxL' + 11) + rm.locals ≤ R.locals := by decide) (hc : cc' ≤ R.cells := by decide) (hs : ss' ≤ R.slots := by decide) (hc' : cc + rm.cells = cc' := by rfl) (hs' : ss + rm.slots = ss' := by rfl) (hsz : ls.size = maxL := by rfl) (hp : pc + 3 = pc' := by rfl) :
    W l Z R K Q h cc ss pc ls st := by
  subst hst hc' hs' hp
  intro T L X N e
  obtain ⟨cq, q1, q2⟩ := E.cell
  obtain ⟨v, _, ⟨T', L', k', n'⟩, -, X', ⟨Lc, hQ, l1, l2, l3⟩, stp⟩ := X.privateBack ok.1 (y := z) ok.2.2.2.2.1 (mvT ok.2.1 (tb _ (List.mem_of_getElem? w1))) (mvT ok.2.1 (tb _ (List.mem_of_getElem? w2))) (mvT ok.2.1 (tb _ (List.mem_of_getElem? w3))) (Cond.privateMethod_at (mvP ok.2.1 (tb _ (List.mem_of_getElem? w4)) (args := #[]))) (mvT ok.2.1 (tb _ (List.mem_of_getElem? w5))) hm
    (backOf (W := wgt) (Q := fun v h L => Q' v h ∧ Fr Z.heap.size L) (con []) ok.2.1 (tb _ (List.mem_of_getElem? w5)) (tb _ (List.mem_of_getElem? w6)) hf hl) (g := mkF K.m pc ls (argsL.reverse ++ .ref a :: rest)) rfl (hsz.trans ok.2.2.2.1.symm) (Steps.refl _) (a := a) (by rw [e]; exact q1) q2 (argsL := argsL) (rest := rest) (lenOf hpd hlen) rfl (by simpa using hW) (hb ok.2.2.1 hd) (fun _ _ => ⟨rfl, e, hc, hs⟩)
  dsimp only [Pt.U, Pt.locs, Pt.cells, Pt.slots] at X' l1 l2 l3 stp hQ
  subst l1 l2 l3
  exact Ends.step (fun t k => stp.trans k) (H v T'.heap hQ.1 T' _ X' (N.app hQ.2) rfl)
theorem W.callF (ok : Ok Z K y code maxL ret) (tb : Tb Z a0 ts) {idx cnt : Nat} {z z' : MethodName} {C : String} {code' : ByteArray} {maxL' : Nat} {ret' : Option FieldType} {rm : Room} {Q' : Option Value → Heap → Prop} {ps : List FieldType} {rt : Option FieldType} {a : Addr} {argsL rest : List Value}
    (i1 i2 i3 i4 i5 i6 i7 i8 i9 : Nat) (w1 : ts[i1]? = some (.methodLink y.cls idx z)) (w2 : ts[i2]? = some (.declares z)) (w3 : ts[i3]? = some (.selects C z z')) (w4 : ts[i4]? = some (.instanceMethod z')) (w5 : ts[i5]? = some (.code z' code' maxL' ret')) (w6 : ts[i6]? = some (.initialized z'.cls))
    (w7 : ts[i7]? = some (.interfaceMethod z.cls z.cls z.name z.desc)) (w8 : ts[i8]? = some (.publicMethod z')) (w9 : ts[i9]? = some (.unhidden C z.name z.desc)) (i10 : Nat) (w10 : ts[i10]? = some (.castable C z.cls))
    (E : Exa Z h a C)
    (hd : decode code pc = .ok (.invokeinterface idx cnt, 5)) (hpd : parseMethodDescriptor z.desc = some ⟨ps, rt⟩) (con : Con l Z z' code' maxL' ret' rm (.ref a :: argsL).toArray h Q') (wgt cc' ss' pc' : Nat)
    (H : ∀ v h', Q' v h' → W l Z R K Q h' cc' ss' pc' ls (v.toList ++ rest))
    (hq : ((Jvm.Cond.interfaceMethod z.cls z.cls z.name z.desc).onTables && (Jvm.Cond.interfaceMethod z.cls z.cls z.name z.desc).keepsFace) = true := by rfl) (hm : z.cls ≠ "java/lang/invoke/MethodHandle" ∧ z.cls ≠ "java/lang/invoke/VarHandle" := by decide) (hlen : argsL.length = ps.length := by rfl) (hst : st = argsL.reverse ++ .ref a :: rest := by rfl) (hW : (rest.map fun v => v.category).sum ≤ wgt := by exact Nat.le_refl _)
    (hf : rm.frames + 1 ≤ R.frames := by decide) (hl : wgt + (maxL' + 11) + rm.locals ≤ R.locals := by decide) (hc : cc' ≤ R.cells := by decide) (hs : ss' ≤ R.slots := by decide) (hc' : cc + rm.cells = cc' := by rfl) (hs' : ss + rm.slots = ss' := by rfl) (hsz : ls.size = maxL := by rfl) (hp : pc + 5 = pc' := by rfl) :
    W l Z R K Q h cc ss pc ls st := by
  subst hst hc' hs' hp
  intro T L X N e
  obtain ⟨cq, kq, qa, qb, qc⟩ := isOf (T := T) ok.2.1 e E
  obtain ⟨v, _, ⟨T', L', k', n'⟩, -, X', ⟨Lc, hQ, l1, l2, l3⟩, stp⟩ := X.interfaceBack ok.1 (xi := z) (y := z') ok.2.2.2.2.1 (mvT ok.2.1 (tb _ (List.mem_of_getElem? w1))) (mvT ok.2.1 (tb _ (List.mem_of_getElem? w2))) (mvT ok.2.1 (tb _ (List.mem_of_getElem? w7)) hq) (mvT ok.2.1 (tb _ (List.mem_of_getElem? w3))) (mvT ok.2.1 (tb _ (List.mem_of_getElem? w4))) (mvT ok.2.1 (tb _ (List.mem_of_getElem? w8))) (mvT ok.2.1 (tb _ (List.mem_of_getElem? w9))) (mvT ok.2.1 (tb _ (List.mem_of_getElem? w10))) hm
    (backOf (W := wgt) (Q := fun v h L => Q' v h ∧ Fr Z.heap.size L) (con []) ok.2.1 (tb _ (List.mem_of_getElem? w5)) (tb _ (List.mem_of_getElem? w6)) hf hl) qa qb qc (g := mkF K.m pc ls (argsL.reverse ++ .ref a :: rest)) rfl (hsz.trans ok.2.2.2.1.symm) (Steps.refl _) (argsL := argsL) (rest := rest) (lenOf hpd hlen) rfl (by simpa using hW) (hb ok.2.2.1 hd) (fun _ _ => ⟨rfl, e, hc, hs⟩)
  dsimp only [Pt.U, Pt.locs, Pt.cells, Pt.slots] at X' l1 l2 l3 stp hQ
  subst l1 l2 l3
  exact Ends.step (fun t k => stp.trans k) (H v T'.heap hQ.1 T' _ X' (N.app hQ.2) rfl)
/-! the heap in pieces: objects (class, fields) and arrays (kind, class, values) made by this run; all that stood at the start stands -/
abbrev Fl : Type := String × String × String × Value
abbrev Pc : Type := (String × List Fl) ⊕ (FieldType × ClassId × List Value)
def Ch (Z : State) (h : Heap) (a : Addr) : Pc → Prop
  | .inl q => Exa Z h a q.1 ∧ ∀ f ∈ q.2, Fld Z h a f.1 f.2.1 f.2.2.1 f.2.2.2
  | .inr q => ∃ c : Cell, Arr Z h a c q.1 ∧ c.cls = q.2.1 ∧ c.slots.toList = q.2.2
def HS (Z : State) (h : Heap) (cs : List (Addr × Pc)) : Prop := Ext Z.heap h ∧ (∀ q ∈ cs, Z.heap.size ≤ q.1 ∧ Ch Z h q.1 q.2) ∧ (cs.map (fun q => q.1)).Nodup
def Lay (Z : State) (fs : List Fl) : Prop := (fs.map fun f => Jvm.RoadKit.slotOf Z f.1 f.2.1 f.2.2.1).Nodup
/-- a new object's fields -/
def Nw (Z : State) (a0 : Array Value) (C : String) (fs : List Fl) : Prop := ∀ f ∈ fs, Laid Z a0 C f.1 f.2.1 f.2.2.1 ∧ ∃ ty, parseFieldDescriptor f.2.2.1 = some ty ∧ defaultValue ty = f.2.2.2
theorem Nw.nil {C : String} : Nw Z a0 C [] := fun _ q => nomatch q
theorem Nw.cons {C O n d : String} {v : Value} {fs : List Fl} (L : Laid Z a0 C O n d) {ty : FieldType} (h1 : parseFieldDescriptor d = some ty) (h2 : defaultValue ty = v) (r : Nw Z a0 C fs) : Nw Z a0 C ((O, n, d, v) :: fs) := fun f hf => by
  rcases List.mem_cons.mp hf with rfl | hf
  · exact ⟨L, ty, h1, h2⟩
  · exact r f hf
theorem Lay.of {C : String} {fs fs0 : List Fl} (nw : Nw Z a0 C fs0) (he : fs.map (fun f => (f.1, f.2.1, f.2.2.1)) = fs0.map (fun f => (f.1, f.2.1, f.2.2.1))) (hn : (fs0.map (fun f => f.2.1)).Nodup := by decide) : Lay Z fs := by
  have e : fs.map (fun f => Jvm.RoadKit.slotOf Z f.1 f.2.1 f.2.2.1) = fs0.map (fun f => Jvm.RoadKit.slotOf Z f.1 f.2.1 f.2.2.1) := by
    have q := congrArg (List.map fun g : String × String × String => Jvm.RoadKit.slotOf Z g.1 g.2.1 g.2.2) he
    simp only [List.map_map] at q
    exact q
  unfold Lay
  rw [e]
  clear e he
  induction fs0 with
  | nil => exact List.nodup_nil
  | cons f fs0 ih =>
    rw [List.map_cons, List.nodup_cons] at hn ⊢
    refine ⟨fun hm => ?_, ih (fun g hg => nw g (List.mem_cons_of_mem _ hg)) hn.2⟩
    obtain ⟨g, hg, eg⟩ := List.mem_map.mp hm
    obtain ⟨L1, t1, p1, -⟩ := nw f (List.mem_cons_self ..)
    obtain ⟨L2, t2, p2, -⟩ := nw g (List.mem_cons_of_mem _ hg)
    exact slot_ne L1 L2 (fun q => hn.1 (List.mem_map.mpr ⟨g, hg, q.symm⟩)) p1 p2 eg.symm
theorem cat_of {v : Value} (h : v.isRef = true) : v.category = 1 := by
  rcases ref_cases h with rfl | ⟨_, rfl⟩ <;> rfl
/-! from the words of a case -/
theorem st_ref {args : Array Value} {C n d k : String} (w : (Jvm.Cond.exactly (.static C n d) k).value args Z none Z [] = some true) (hi : (Jvm.Cond.initializedFor C n d).before args Z = true ∨ ((Jvm.Cond.initialized C).before args Z = true ∧ (Jvm.Cond.laysStatic C n d).before args Z = true)) :
    ∃ a, (Term.static C n d).eval args Z none [] Z = some (.ref a) ∧ Sta Z Z.heap C n d (.ref a) ∧ Exa Z Z.heap a k := by
  obtain ⟨x, e⟩ := exa_v w
  exact ⟨x, e, Sta.start e hi, Exa.start e w⟩
theorem fl_of {args : Array Value} {t : Term} {a : Addr} {C n d : String} {i : Int32} (e : t.eval args Z none [] Z = some (.ref a)) (w : (Jvm.Cond.eq (.field t C n d) (.int i)).value args Z none Z [] = some true) : Fld Z Z.heap a C n d (.int i) := by
  have e2 := fld_at (C := C) (n := n) (dd := d) e
  refine Fld.start ?_
  cases hq : Z.fieldOf? a C n d with
  | none => rw [hq] at e2; simp [Cond.value, e2] at w
  | some v =>
    rw [hq] at e2
    cases v <;> simp [Cond.value, e2, Term.int_eval] at w
    rw [w]
variable {cs : List (Addr × Pc)} {h' : Heap} {a : Addr} {sl : Nat} {v : Value}
theorem Ch.lt {b : Pc} (F : Ch Z h a b) : a < h.size := by
  rcases b with q | q
  · exact F.1.lt
  · obtain ⟨c, A, -⟩ := F; exact A.lt
theorem Ch.ext {b : Pc} (E : Ext h h') (F : Ch Z h a b) : Ch Z h' a b := by
  rcases b with q | q
  · exact ⟨F.1.ext E, fun f hf => (F.2 f hf).ext E⟩
  · obtain ⟨c, A, r⟩ := F; exact ⟨c, A.ext E, r⟩
theorem Ch.other {b : Pc} {x : Addr} (W : Wr h h' x sl v) (ne : a ≠ x) (F : Ch Z h a b) : Ch Z h' a b := by
  rcases b with q | q
  · exact ⟨F.1.wr W, fun f hf => (F.2 f hf).other W (Or.inl ne)⟩
  · obtain ⟨c, A, r⟩ := F; exact ⟨c, A.other W ne, r⟩
theorem HS.nil (Z : State) : HS Z Z.heap [] := ⟨⟨Nat.le_refl _, fun _ _ q => q⟩, fun _ q => (by cases q), List.nodup_nil⟩
theorem HS.at (H : HS Z h cs) {i : Nat} {b : Pc} (hi : cs[i]? = some (a, b)) : Z.heap.size ≤ a ∧ Ch Z h a b := H.2.1 _ (List.mem_of_getElem? hi)
theorem HS.exa (H : HS Z h cs) {i : Nat} {C : String} {fs : List Fl} (hi : cs[i]? = some (a, .inl (C, fs))) : Exa Z h a C := (H.at hi).2.1
theorem HS.fld (H : HS Z h cs) {i j : Nat} {C : String} {fs : List Fl} {O n d : String} (hi : cs[i]? = some (a, .inl (C, fs))) (hj : fs[j]? = some (O, n, d, v)) : Fld Z h a O n d v := (H.at hi).2.2 _ (List.mem_of_getElem? hj)
theorem HS.add (H : HS Z h cs) (E : Ext h h') {b : Pc} (F : Ch Z h' h.size b) : HS Z h' ((h.size, b) :: cs) := by
  refine ⟨⟨Nat.le_trans H.1.1 E.1, fun x c q => E.2 x c (H.1.2 x c q)⟩, fun q hq => ?_, ?_⟩
  · rcases List.mem_cons.mp hq with rfl | hq
    · exact ⟨H.1.1, F⟩
    · exact ⟨(H.2.1 q hq).1, (H.2.1 q hq).2.ext E⟩
  · refine List.nodup_cons.mpr ⟨fun hm => ?_, H.2.2⟩
    obtain ⟨q, hq, e⟩ := List.mem_map.mp hm
    have := (H.2.1 q hq).2.lt
    rw [e] at this
    exact Nat.lt_irrefl _ this
theorem nodup_set {α : Type} {L : List α} (h : L.Nodup) : ∀ {i j : Nat} {x : α}, L[i]? = some x → L[j]? = some x → i = j := fun {i j x} hi hj => (List.getElem?_inj (List.getElem?_eq_some_iff.mp hi).1 h).mp (hi.trans hj.symm)
theorem HS.set (H : HS Z h cs) {i : Nat} {b b' : Pc} (hi : cs[i]? = some (a, b)) (Wq : Wr h h' a sl v) (F : Ch Z h' a b') : HS Z h' (cs.set i (a, b')) := by
  have g := H.at hi
  refine ⟨⟨by rw [Wq.size]; exact H.1.1, fun x c q => ?_⟩, fun q hq => ?_, ?_⟩
  · obtain ⟨c', e1, -, -, -, e5, -⟩ := wr_at Wq (H.1.2 x c q)
    have ne : x ≠ a := fun e => by subst e; exact absurd (Array.getElem?_eq_some_iff.mp q).1 (Nat.not_lt.mpr g.1)
    rw [e5 ne] at e1; exact e1
  · obtain ⟨j, hj⟩ := List.mem_iff_getElem?.mp hq
    rw [List.getElem?_set] at hj
    split at hj
    · split at hj
      · cases hj; exact ⟨g.1, F⟩
      · cases hj
    · rename_i ne
      have m := H.2.1 q (List.mem_of_getElem? hj)
      refine ⟨m.1, m.2.other Wq fun e => ne ?_⟩
      refine nodup_set H.2.2 (x := a) (by simp [hi]) (by simp [hj, e])
  · have : ((cs.set i (a, b')).map fun q => q.1) = cs.map fun q => q.1 := by
      rw [List.map_set]
      refine List.ext_getElem? fun j => ?_
      rw [List.getElem?_set]
      split
      · rename_i e; subst e
        simp [hi]
        exact (List.getElem?_eq_some_iff.mp hi).1
      · rfl
    rw [this]; exact H.2.2
theorem HS.pull (H : HS Z h cs) (i : Nat) {q : Addr × Pc} (cs' : List (Addr × Pc)) (hi : cs[i]? = some q) (e : q :: cs.eraseIdx i = cs') : HS Z h cs' := by
  subst e
  obtain ⟨hlt, rfl⟩ := List.getElem?_eq_some_iff.mp hi
  have pm : (cs[i] :: cs.eraseIdx i).Perm cs := by
    rw [List.eraseIdx_eq_take_drop_succ]
    have e := List.take_append_drop i cs
    rw [List.drop_eq_getElem_cons hlt] at e
    exact List.perm_middle.symm.trans (List.Perm.of_eq e)
  exact ⟨H.1, fun q hq => H.2.1 q (pm.mem_iff.mp hq), (pm.map _).nodup_iff.mpr H.2.2⟩
theorem HS.drop (H : HS Z h cs) {cs' : List (Addr × Pc)} (s : cs'.Sublist cs) : HS Z h cs' := ⟨H.1, fun q hq => H.2.1 q (s.mem hq), H.2.2.sublist (s.map _)⟩
theorem HS.sta (H : HS Z h cs) {O n d : String} (S : Sta Z Z.heap O n d v) : Sta Z h O n d v := S.ext H.1
theorem HS.ne (H : HS Z h cs) {i j : Nat} {x : Addr} {b b' : Pc} (hi : cs[i]? = some (a, b)) (hj : cs[j]? = some (x, b')) (n : i ≠ j) : a ≠ x := fun e => n (nodup_set H.2.2 (x := a) (by simp [hi]) (by simp [hj, e]))
theorem HS.ne_old (H : HS Z h cs) {i : Nat} {x : Addr} {b : Pc} (hi : cs[i]? = some (a, b)) (hx : x < Z.heap.size) : a ≠ x := fun e => by subst e; exact absurd hx (Nat.not_lt.mpr (H.at hi).1)
theorem Ch.put {C O n d : String} {fs : List Fl} {j : Nat} {w : Value} (F : Ch Z h a (.inl (C, fs))) (hj : fs[j]? = some (O, n, d, w)) (lay : Lay Z fs) (Wq : Wr h h' a (Jvm.RoadKit.slotOf Z O n d) v) : Ch Z h' a (.inl (C, fs.set j (O, n, d, v))) := by
  refine ⟨F.1.wr Wq, fun f hf => ?_⟩
  obtain ⟨k, hk⟩ := List.mem_iff_getElem?.mp hf
  rw [List.getElem?_set] at hk
  split at hk
  · split at hk
    · cases hk; exact (F.2 _ (List.mem_of_getElem? hj)).same Wq
    · cases hk
  · rename_i ne
    refine (F.2 _ (List.mem_of_getElem? hk)).other Wq (Or.inr fun e => ne ?_)
    exact nodup_set lay (x := Jvm.RoadKit.slotOf Z O n d) (by simp [hj]) (by simp [hk, e])
theorem W.getF (ok : Ok Z K y code maxL ret) (tb : Tb Z a0 ts) {idx : Nat} {R0 O n d : String} (i1 : Nat) (w1 : ts[i1]? = some (.fieldLink y.cls idx R0 n d)) (via : Via Z R0 O n d) (F : Fld Z h a O n d v) (hd : decode code pc = .ok (.getfield idx, 3)) (pc' : Nat) (G : W l Z R K Q h cc ss pc' ls (v :: st)) (hp : pc + 3 = pc' := by rfl) :
    W l Z R K Q h cc ss pc ls (.ref a :: st) := by
  subst hp
  intro T L X N e
  obtain ⟨T', X', e', stp⟩ := Jvm.RoadKit.getF X ok.1 ok.2.1 ok.2.2.2.2.1 (host := "") (Or.inl (tb _ (List.mem_of_getElem? w1))) via e F (g := mkF K.m pc ls (.ref a :: st)) rfl rfl (hb ok.2.2.1 hd)
  exact Ends.step stp (G T' _ X' N e')
theorem W.getFN (ok : Ok Z K y code maxL ret) (tb : Tb Z a0 ts) {idx : Nat} {R0 O n d host : String} (i1 : Nat) (w1 : ts[i1]? = some (.fieldLinkNest y.cls idx R0 n d host)) (via : Via Z R0 O n d) (F : Fld Z h a O n d v) (hd : decode code pc = .ok (.getfield idx, 3)) (pc' : Nat) (G : W l Z R K Q h cc ss pc' ls (v :: st)) (hp : pc + 3 = pc' := by rfl) :
    W l Z R K Q h cc ss pc ls (.ref a :: st) := by
  subst hp
  intro T L X N e
  obtain ⟨T', X', e', stp⟩ := Jvm.RoadKit.getF X ok.1 ok.2.1 ok.2.2.2.2.1 (Or.inr (tb _ (List.mem_of_getElem? w1))) via e F (g := mkF K.m pc ls (.ref a :: st)) rfl rfl (hb ok.2.2.1 hd)
  exact Ends.step stp (G T' _ X' N e')
theorem W.getS (ok : Ok Z K y code maxL ret) (tb : Tb Z a0 ts) {idx : Nat} {R0 O n d : String} (i1 : Nat) (w1 : ts[i1]? = some (.fieldLink y.cls idx R0 n d)) (via : Via Z R0 O n d) (S : Sta Z h O n d v) (hd : decode code pc = .ok (.getstatic idx, 3)) (pc' : Nat) (G : W l Z R K Q h cc ss pc' ls (v :: st)) (hp : pc + 3 = pc' := by rfl) :
    W l Z R K Q h cc ss pc ls st := by
  subst hp
  intro T L X N e
  obtain ⟨T', X', e', stp⟩ := Jvm.RoadKit.getS X ok.1 ok.2.1 ok.2.2.2.2.1 (host := "") (tb _ (List.mem_of_getElem? w1)) via e S (g := mkF K.m pc ls st) rfl (hb ok.2.2.1 hd)
  exact Ends.step stp (G T' _ X' N e')
theorem W.getSN (ok : Ok Z K y code maxL ret) (tb : Tb Z a0 ts) {idx : Nat} {R0 O n d host : String} (i1 : Nat) (w1 : ts[i1]? = some (.fieldLinkNest y.cls idx R0 n d host)) (via : Via Z R0 O n d) (S : Sta Z h O n d v) (hd : decode code pc = .ok (.getstatic idx, 3)) (pc' : Nat) (G : W l Z R K Q h cc ss pc' ls (v :: st)) (hp : pc + 3 = pc' := by rfl) :
    W l Z R K Q h cc ss pc ls st := by
  subst hp
  intro T L X N e
  obtain ⟨T', X', e', stp⟩ := Jvm.RoadKit.getS2 X ok.1 ok.2.1 ok.2.2.2.2.1 (Or.inr (tb _ (List.mem_of_getElem? w1))) via e S (g := mkF K.m pc ls st) rfl (hb ok.2.2.1 hd)
  exact Ends.step stp (G T' _ X' N e')
/-- putfield into a piece; Lq: 'lays', or 'laysFinal' in a constructor -/
theorem W.putF (ok : Ok Z K y code maxL ret) (tb : Tb Z a0 ts) (H : HS Z h cs) {idx i j kk : Nat} {R0 C O n d : String} {fs : List Fl} {w0 w' : Value} {ty : FieldType} (hi : cs[i]? = some (a, .inl (C, fs))) (hj : fs[j]? = some (O, n, d, w0))
    (i1 i2 : Nat) (w1 : ts[i1]? = some (.fieldLink y.cls idx R0 n d)) (w2 : ts[i2]? = some (.instantiable C kk)) (via : Via Z R0 O n d) (Lq : (Jvm.Cond.lays C O n d).before a0 Z = true ∨ ((Jvm.Cond.laysFinal C O n d).before a0 Z = true ∧ y.cls = O ∧ y.name = "<init>")) (lay : Lay Z fs)
    (hty : parseFieldDescriptor d = some ty) (hn : narrow ty v = w') (hf : fits ty w' = true) (hd : decode code pc = .ok (.putfield idx, 3)) (pc' : Nat) (cs' : List (Addr × Pc)) (hcs : cs.set i (a, .inl (C, fs.set j (O, n, d, w'))) = cs') (G : ∀ h', HS Z h' cs' → W l Z R K Q h' cc ss pc' ls st) (hp : pc + 3 = pc' := by rfl) :
    W l Z R K Q h cc ss pc ls (v :: .ref a :: st) := by
  subst hp hcs
  intro T L X N e
  have g := H.at hi
  obtain ⟨T', h', X', e', W', stp⟩ := Jvm.RoadKit.putFN X ok.1 ok.2.1 ok.2.2.2.2.1 (tb _ (List.mem_of_getElem? w1)) via e (H.fld hi hj) (H.exa hi) (Lq.imp id fun q => ⟨q.1, q.2.1, ok.2.2.2.2.2.2.1.trans q.2.2⟩) (tb _ (List.mem_of_getElem? w2)) hty hn hf (g := mkF K.m pc ls (v :: .ref a :: st)) rfl rfl (hb ok.2.2.1 hd)
  exact Ends.step stp (G h' (H.set hi W' (g.2.put hj lay W')) T' _ X' (Fr.snoc X' N g.1) e')
theorem W.new (ok : Ok Z K y code maxL ret) (tb : Tb Z a0 ts) (H : HS Z h cs) {idx n : Nat} {C : String} (i1 i2 i3 : Nat) (w1 : ts[i1]? = some (.classLink y.cls idx C)) (w2 : ts[i2]? = some (.instantiable C n)) (w3 : ts[i3]? = some (.initialized C)) {fs : List Fl} (nw : Nw Z a0 C fs)
    (hd : decode code pc = .ok (.new idx, 3)) (cc' ss' pc' : Nat) (G : ∀ a h', HS Z h' ((a, .inl (C, fs)) :: cs) → W l Z R K Q h' cc' ss' pc' ls (.ref a :: st)) (hc : cc' ≤ R.cells := by decide) (hs : ss' ≤ R.slots := by decide) (hc' : cc + 1 = cc' := by rfl) (hs' : ss + n = ss' := by rfl) (hp : pc + 3 = pc' := by rfl) :
    W l Z R K Q h cc ss pc ls st := by
  subst hp hc' hs'
  intro T L X N e
  obtain ⟨T', h', X', e', E', A', D', -, stp⟩ := Jvm.RoadKit.newO X ok.1 ok.2.1 ok.2.2.2.2.1 (tb _ (List.mem_of_getElem? w1)) (tb _ (List.mem_of_getElem? w2)) (tb _ (List.mem_of_getElem? w3)) e (g := mkF K.m pc ls st) rfl (hb ok.2.2.1 hd) hc hs
  refine Ends.step stp (G h.size h' (H.add E' ⟨A', fun f hf => ?_⟩) T' _ X' N e')
  obtain ⟨L1, ty, t1, t2⟩ := nw f hf
  have q := D' L1 t1
  rw [t2] at q
  exact q
theorem len_eq {c : Cell} {vs : List Value} (e : c.slots.toList = vs) : c.slots.size = vs.length := by rw [← e]; simp
theorem at_eq {c : Cell} {vs : List Value} (e : c.slots.toList = vs) (k : Nat) : c.slots[k]? = vs[k]? := by rw [← e]; simp
theorem in_of {c : Cell} {vs : List Value} {j : Int32} (e : c.slots.toList = vs) (hj : ¬ j < 0) (hv : j.toNatClampNeg < vs.length) : ¬ (j < 0 ∨ c.slots.size ≤ j.toNatClampNeg) := by
  rw [len_eq e]; exact fun q => q.elim hj (by omega)
theorem lt_of_at {vs : List Value} {k : Nat} (hv : vs[k]? = some v) : k < vs.length := (List.getElem?_eq_some_iff.mp hv).1
theorem W.newP (ok : Ok Z K y code maxL ret) (tb : Tb Z a0 ts) (H : HS Z h cs) {aty : ArrayType} {n : Int32} (i1 : Nat) (w1 : ts[i1]? = some (.arrayClass (newarray.typeOf aty))) (hd : decode code pc = .ok (.newarray aty, 2)) (cap : Nat) (vs : List Value) (hvs : List.replicate n.toNatClampNeg (defaultValue (newarray.typeOf aty)) = vs) (cc' ss' pc' : Nat)
    (hn : ¬ n < 0) (hcap : n.toNatClampNeg ≤ cap) (G : ∀ a k h', HS Z h' ((a, .inr (newarray.typeOf aty, k, vs)) :: cs) → W l Z R K Q h' cc' ss' pc' ls (.ref a :: st))
    (hb' : cap * 8 ≤ 536870912 := by decide) (hc : cc' ≤ R.cells := by decide) (hs : ss' ≤ R.slots := by decide) (hc' : cc + 1 = cc' := by rfl) (hs' : ss + cap = ss' := by rfl) (hp : pc + 2 = pc' := by rfl) :
    W l Z R K Q h cc ss pc ls (.int n :: st) := by
  subst hp hc' hs' hvs
  intro T L X N e
  obtain ⟨T', h', k, X', e', E', A', stp⟩ := Jvm.RoadKit.newP X ok.1 ok.2.1 (tb _ (List.mem_of_getElem? w1)) e (g := mkF K.m pc ls (.int n :: st)) rfl (hb ok.2.2.1 hd) rfl hn hcap hb' hc hs
  exact Ends.step stp (G h.size k h' (H.add E' ⟨_, A', rfl, by simp [newA]⟩) T' _ X' N e')
theorem W.newR (ok : Ok Z K y code maxL ret) (tb : Tb Z a0 ts) (H : HS Z h cs) {idx : Nat} {C : String} {n : Int32} (i1 i2 : Nat) (w1 : ts[i1]? = some (.classLink y.cls idx C)) (w2 : ts[i2]? = some (.arrayOver (.object C))) (hd : decode code pc = .ok (.anewarray idx, 3)) (cap : Nat) (vs : List Value) (hvs : List.replicate n.toNatClampNeg Value.null = vs) (cc' ss' pc' : Nat)
    (hn : ¬ n < 0) (hcap : n.toNatClampNeg ≤ cap) (G : ∀ a k h', Ovr Z k C → HS Z h' ((a, .inr (.object C, k, vs)) :: cs) → W l Z R K Q h' cc' ss' pc' ls (.ref a :: st))
    (hb' : cap * 8 ≤ 536870912 := by decide) (hc : cc' ≤ R.cells := by decide) (hs : ss' ≤ R.slots := by decide) (hc' : cc + 1 = cc' := by rfl) (hs' : ss + cap = ss' := by rfl) (hp : pc + 3 = pc' := by rfl) :
    W l Z R K Q h cc ss pc ls (.int n :: st) := by
  subst hp hc' hs' hvs
  intro T L X N e
  obtain ⟨T', h', k, X', e', E', A', O', stp⟩ := Jvm.RoadKit.newR X ok.1 ok.2.1 ok.2.2.2.2.1 (tb _ (List.mem_of_getElem? w1)) (tb _ (List.mem_of_getElem? w2)) e (g := mkF K.m pc ls (.int n :: st)) rfl (hb ok.2.2.1 hd) rfl hn hcap hb' hc hs
  exact Ends.step stp (G h.size k h' O' (H.add E' ⟨_, A', rfl, by simp [newA, defaultValue]⟩) T' _ X' N e')
theorem W.alen (ok : Ok Z K y code maxL ret) (H : HS Z h cs) {i : Nat} {ty : FieldType} {k : ClassId} {vs : List Value} (hi : cs[i]? = some (a, .inr (ty, k, vs))) (hd : decode code pc = .ok (.arraylength, 1)) (pc' : Nat) (n : Int32) (hn : vs.length.toInt32 = n) (G : W l Z R K Q h cc ss pc' ls (.int n :: st)) (hp : pc + 1 = pc' := by rfl) :
    W l Z R K Q h cc ss pc ls (.ref a :: st) := by
  subst hp hn
  intro T L X N e
  obtain ⟨c, A, -, q⟩ := (H.at hi).2
  refine Ends.step (fun t kt => X.arraylength ok.1 (by rw [e]; exact A.1) (State.isArrayOf_alike ok.2.1.alike A.2.1) (g := mkF K.m pc ls (.ref a :: st)) rfl rfl (hb ok.2.2.1 hd) _ ?_) (G T _ X N e)
  rw [len_eq q]; exact kt
theorem W.iald (ok : Ok Z K y code maxL ret) (H : HS Z h cs) {i : Nat} {k : ClassId} {vs : List Value} {j : Int32} (hi : cs[i]? = some (a, .inr (.int, k, vs))) (hj : ¬ j < 0) (hv : vs[j.toNatClampNeg]? = some v) (hd : decode code pc = .ok (.iaload, 1)) (pc' : Nat) (G : W l Z R K Q h cc ss pc' ls (v :: st)) (hp : pc + 1 = pc' := by rfl) :
    W l Z R K Q h cc ss pc ls (.int j :: .ref a :: st) := by
  subst hp
  intro T L X N e
  obtain ⟨c, A, -, q⟩ := (H.at hi).2
  exact Ends.step (fun t kt => X.iaload ok.1 (j := j) (v := v) (by rw [e]; exact A.1) (State.isArrayOf_alike ok.2.1.alike A.2.1) A.2.2 (in_of q hj (lt_of_at hv)) ((at_eq q _).trans hv) (g := mkF K.m pc ls (.int j :: .ref a :: st)) rfl rfl (hb ok.2.2.1 hd) _ kt) (G T _ X N e)
theorem W.cald (ok : Ok Z K y code maxL ret) (H : HS Z h cs) {i : Nat} {k : ClassId} {vs : List Value} {j : Int32} (hi : cs[i]? = some (a, .inr (.char, k, vs))) (hj : ¬ j < 0) (hv : vs[j.toNatClampNeg]? = some v) (hd : decode code pc = .ok (.caload, 1)) (pc' : Nat) (G : W l Z R K Q h cc ss pc' ls (v :: st)) (hp : pc + 1 = pc' := by rfl) :
    W l Z R K Q h cc ss pc ls (.int j :: .ref a :: st) := by
  subst hp
  intro T L X N e
  obtain ⟨c, A, -, q⟩ := (H.at hi).2
  exact Ends.step (fun t kt => X.caload ok.1 (j := j) (v := v) (by rw [e]; exact A.1) (State.isArrayOf_alike ok.2.1.alike A.2.1) A.2.2 (in_of q hj (lt_of_at hv)) ((at_eq q _).trans hv) (g := mkF K.m pc ls (.int j :: .ref a :: st)) rfl rfl (hb ok.2.2.1 hd) _ kt) (G T _ X N e)
theorem W.bald (ok : Ok Z K y code maxL ret) (H : HS Z h cs) {i : Nat} {k : ClassId} {vs : List Value} {j : Int32} (hi : cs[i]? = some (a, .inr (.byte, k, vs))) (hj : ¬ j < 0) (hv : vs[j.toNatClampNeg]? = some v) (hd : decode code pc = .ok (.baload, 1)) (pc' : Nat) (G : W l Z R K Q h cc ss pc' ls (v :: st)) (hp : pc + 1 = pc' := by rfl) :
    W l Z R K Q h cc ss pc ls (.int j :: .ref a :: st) := by
  subst hp
  intro T L X N e
  obtain ⟨c, A, -, q⟩ := (H.at hi).2
  exact Ends.step (fun t kt => X.baloadBytes ok.1 (j := j) (v := v) (by rw [e]; exact A.1) (State.isArrayOf_alike ok.2.1.alike A.2.1) A.2.2 (in_of q hj (lt_of_at hv)) ((at_eq q _).trans hv) (g := mkF K.m pc ls (.int j :: .ref a :: st)) rfl rfl (hb ok.2.2.1 hd) _ kt) (G T _ X N e)
theorem W.zald (ok : Ok Z K y code maxL ret) (H : HS Z h cs) {i : Nat} {k : ClassId} {vs : List Value} {j : Int32} (hi : cs[i]? = some (a, .inr (.boolean, k, vs))) (hj : ¬ j < 0) (hv : vs[j.toNatClampNeg]? = some v) (hd : decode code pc = .ok (.baload, 1)) (pc' : Nat) (G : W l Z R K Q h cc ss pc' ls (v :: st)) (hp : pc + 1 = pc' := by rfl) :
    W l Z R K Q h cc ss pc ls (.int j :: .ref a :: st) := by
  subst hp
  intro T L X N e
  obtain ⟨c, A, -, q⟩ := (H.at hi).2
  exact Ends.step (fun t kt => X.baloadBooleans ok.1 (j := j) (v := v) (by rw [e]; exact A.1) (State.isArrayOf_alike ok.2.1.alike A.2.1) A.2.2 (in_of q hj (lt_of_at hv)) ((at_eq q _).trans hv) (g := mkF K.m pc ls (.int j :: .ref a :: st)) rfl rfl (hb ok.2.2.1 hd) _ kt) (G T _ X N e)
theorem W.aald (ok : Ok Z K y code maxL ret) (H : HS Z h cs) {i : Nat} {ty : FieldType} {k : ClassId} {vs : List Value} {j : Int32} (hi : cs[i]? = some (a, .inr (ty, k, vs))) (hj : ¬ j < 0) (hv : vs[j.toNatClampNeg]? = some v) (hd : decode code pc = .ok (.aaload, 1)) (pc' : Nat) (G : W l Z R K Q h cc ss pc' ls (v :: st)) (hty : ty.isReference = true := by rfl) (hp : pc + 1 = pc' := by rfl) :
    W l Z R K Q h cc ss pc ls (.int j :: .ref a :: st) := by
  subst hp
  intro T L X N e
  obtain ⟨c, A, -, q⟩ := (H.at hi).2
  exact Ends.step (fun t kt => X.aaload ok.1 (j := j) (v := v) (by rw [e]; exact A.1) (State.isArrayOf_alike ok.2.1.alike A.2.1) hty A.2.2 (in_of q hj (lt_of_at hv)) ((at_eq q _).trans hv) (g := mkF K.m pc ls (.int j :: .ref a :: st)) rfl rfl (hb ok.2.2.1 hd) _ kt) (G T _ X N e)
theorem Ch.aput {ty : FieldType} {k : ClassId} {vs : List Value} {n : Nat} {c : Cell} (A : Arr Z h a c ty) (e1 : c.cls = k) (e2 : c.slots.toList = vs) (Wq : Wr h h' a n v) : Ch Z h' a (.inr (ty, k, vs.set n v)) :=
  ⟨_, A.same Wq, e1, by subst e2; simp [Cell.setSlot]⟩
theorem W.iast (ok : Ok Z K y code maxL ret) (H : HS Z h cs) {i : Nat} {k : ClassId} {vs : List Value} {j x : Int32} (hi : cs[i]? = some (a, .inr (.int, k, vs))) (hj : ¬ j < 0) (hv : j.toNatClampNeg < vs.length) (hd : decode code pc = .ok (.iastore, 1)) (pc' : Nat) (cs' : List (Addr × Pc)) (hcs : cs.set i (a, .inr (.int, k, vs.set j.toNatClampNeg (.int x))) = cs') (G : ∀ h', HS Z h' cs' → W l Z R K Q h' cc ss pc' ls st) (hp : pc + 1 = pc' := by rfl) :
    W l Z R K Q h cc ss pc ls (.int x :: .int j :: .ref a :: st) := by
  subst hp hcs
  intro T L X N e
  have g := H.at hi
  obtain ⟨c, A, e1, e2⟩ := g.2
  obtain ⟨T', h', X', e', W', stp⟩ := Jvm.RoadKit.stI X ok.1 ok.2.1 e A (j := j) (in_of e2 hj hv) (g := mkF K.m pc ls (.int x :: .int j :: .ref a :: st)) rfl rfl (hb ok.2.2.1 hd)
  exact Ends.step stp (G h' (H.set hi W' (Ch.aput A e1 e2 W')) T' _ X' (Fr.snoc X' N g.1) e')
theorem W.cast (ok : Ok Z K y code maxL ret) (H : HS Z h cs) {i : Nat} {k : ClassId} {vs : List Value} {j x : Int32} (hi : cs[i]? = some (a, .inr (.char, k, vs))) (hj : ¬ j < 0) (hv : j.toNatClampNeg < vs.length) (w : Int32) (hw : (nar .char x) = w) (hd : decode code pc = .ok (.castore, 1)) (pc' : Nat) (cs' : List (Addr × Pc)) (hcs : cs.set i (a, .inr (.char, k, vs.set j.toNatClampNeg (.int w))) = cs') (G : ∀ h', HS Z h' cs' → W l Z R K Q h' cc ss pc' ls st) (hp : pc + 1 = pc' := by rfl) :
    W l Z R K Q h cc ss pc ls (.int x :: .int j :: .ref a :: st) := by
  subst hp hw hcs
  intro T L X N e
  have g := H.at hi
  obtain ⟨c, A, e1, e2⟩ := g.2
  obtain ⟨T', h', X', e', W', stp⟩ := Jvm.RoadKit.stC X ok.1 ok.2.1 e A (j := j) (in_of e2 hj hv) (g := mkF K.m pc ls (.int x :: .int j :: .ref a :: st)) rfl rfl (hb ok.2.2.1 hd)
  exact Ends.step stp (G h' (H.set hi W' (Ch.aput A e1 e2 W')) T' _ X' (Fr.snoc X' N g.1) e')
theorem W.bast (ok : Ok Z K y code maxL ret) (H : HS Z h cs) {i : Nat} {k : ClassId} {vs : List Value} {j x : Int32} (hi : cs[i]? = some (a, .inr (.byte, k, vs))) (hj : ¬ j < 0) (hv : j.toNatClampNeg < vs.length) (w : Int32) (hw : (nar .byte x) = w) (hd : decode code pc = .ok (.bastore, 1)) (pc' : Nat) (cs' : List (Addr × Pc)) (hcs : cs.set i (a, .inr (.byte, k, vs.set j.toNatClampNeg (.int w))) = cs') (G : ∀ h', HS Z h' cs' → W l Z R K Q h' cc ss pc' ls st) (hp : pc + 1 = pc' := by rfl) :
    W l Z R K Q h cc ss pc ls (.int x :: .int j :: .ref a :: st) := by
  subst hp hw hcs
  intro T L X N e
  have g := H.at hi
  obtain ⟨c, A, e1, e2⟩ := g.2
  obtain ⟨T', h', X', e', W', stp⟩ := Jvm.RoadKit.stB X ok.1 ok.2.1 e A (j := j) (in_of e2 hj hv) (g := mkF K.m pc ls (.int x :: .int j :: .ref a :: st)) rfl rfl (hb ok.2.2.1 hd)
  exact Ends.step stp (G h' (H.set hi W' (Ch.aput A e1 e2 W')) T' _ X' (Fr.snoc X' N g.1) e')
theorem W.zast (ok : Ok Z K y code maxL ret) (H : HS Z h cs) {i : Nat} {k : ClassId} {vs : List Value} {j x : Int32} (hi : cs[i]? = some (a, .inr (.boolean, k, vs))) (hj : ¬ j < 0) (hv : j.toNatClampNeg < vs.length) (w : Int32) (hw : (nar .boolean x) = w) (hd : decode code pc = .ok (.bastore, 1)) (pc' : Nat) (cs' : List (Addr × Pc)) (hcs : cs.set i (a, .inr (.boolean, k, vs.set j.toNatClampNeg (.int w))) = cs') (G : ∀ h', HS Z h' cs' → W l Z R K Q h' cc ss pc' ls st) (hp : pc + 1 = pc' := by rfl) :
    W l Z R K Q h cc ss pc ls (.int x :: .int j :: .ref a :: st) := by
  subst hp hw hcs
  intro T L X N e
  have g := H.at hi
  obtain ⟨c, A, e1, e2⟩ := g.2
  obtain ⟨T', h', X', e', W', stp⟩ := Jvm.RoadKit.stZ X ok.1 ok.2.1 e A (j := j) (in_of e2 hj hv) (g := mkF K.m pc ls (.int x :: .int j :: .ref a :: st)) rfl rfl (hb ok.2.2.1 hd)
  exact Ends.step stp (G h' (H.set hi W' (Ch.aput A e1 e2 W')) T' _ X' (Fr.snoc X' N g.1) e')
theorem W.aast (ok : Ok Z K y code maxL ret) (H : HS Z h cs) {i : Nat} {ty : FieldType} {k : ClassId} {vs : List Value} {j : Int32} (hi : cs[i]? = some (a, .inr (ty, k, vs))) (hj : ¬ j < 0) (hv : j.toNatClampNeg < vs.length) (S : Sto Z h a v) (hd : decode code pc = .ok (.aastore, 1)) (pc' : Nat) (cs' : List (Addr × Pc)) (hcs : cs.set i (a, .inr (ty, k, vs.set j.toNatClampNeg v)) = cs') (G : ∀ h', HS Z h' cs' → W l Z R K Q h' cc ss pc' ls st) (hty : ty.isReference = true := by rfl) (hp : pc + 1 = pc' := by rfl) :
    W l Z R K Q h cc ss pc ls (v :: .int j :: .ref a :: st) := by
  subst hp hcs
  intro T L X N e
  have g := H.at hi
  obtain ⟨c, A, e1, e2⟩ := g.2
  obtain ⟨T', h', X', e', W', stp⟩ := Jvm.RoadKit.stR X ok.1 ok.2.1 e A (j := j) (in_of e2 hj hv) hty S (g := mkF K.m pc ls (v :: .int j :: .ref a :: st)) rfl rfl (hb ok.2.2.1 hd)
  exact Ends.step stp (G h' (H.set hi W' (Ch.aput A e1 e2 W')) T' _ X' (Fr.snoc X' N g.1) e')
theorem HS.sto (H : HS Z h cs) {i : Nat} {ty : FieldType} {k : ClassId} {vs : List Value} {C : String} {x : Addr} (hi : cs[i]? = some (a, .inr (ty, k, vs))) (O : Ovr Z k C) (I : Ins Z h x C true) : Sto Z h a (.ref x) := by
  obtain ⟨c, A, e1, -⟩ := (H.at hi).2
  exact Sto.of A (e1 ▸ O) I
theorem W.castY (ok : Ok Z K y code maxL ret) (tb : Tb Z a0 ts) {idx : Nat} {C : String} (i1 : Nat) (w1 : ts[i1]? = some (.classLink y.cls idx C)) (F : Ins Z h a C true) (hd : decode code pc = .ok (.checkcast idx, 3)) (pc' : Nat) (G : W l Z R K Q h cc ss pc' ls (.ref a :: st)) (hp : pc + 3 = pc' := by rfl) :
    W l Z R K Q h cc ss pc ls (.ref a :: st) := by
  subst hp
  intro T L X N e
  obtain ⟨T', X', e', stp⟩ := Jvm.RoadKit.castY X ok.1 ok.2.1 ok.2.2.2.2.1 (tb _ (List.mem_of_getElem? w1)) e F (g := mkF K.m pc ls (.ref a :: st)) rfl rfl (hb ok.2.2.1 hd)
  exact Ends.step stp (G T' _ X' N e')
theorem W.instY (ok : Ok Z K y code maxL ret) (tb : Tb Z a0 ts) {idx : Nat} {C : String} (i1 : Nat) (w1 : ts[i1]? = some (.classLink y.cls idx C)) (F : Ins Z h a C true) (hd : decode code pc = .ok (.instanceof idx, 3)) (pc' : Nat) (G : W l Z R K Q h cc ss pc' ls (.int 1 :: st)) (hp : pc + 3 = pc' := by rfl) :
    W l Z R K Q h cc ss pc ls (.ref a :: st) := by
  subst hp
  intro T L X N e
  obtain ⟨T', X', e', stp⟩ := Jvm.RoadKit.instY X ok.1 ok.2.1 ok.2.2.2.2.1 (tb _ (List.mem_of_getElem? w1)) e F (g := mkF K.m pc ls (.ref a :: st)) rfl rfl (hb ok.2.2.1 hd)
  exact Ends.step stp (G T' _ X' N e')
theorem W.castN (ok : Ok Z K y code maxL ret) {idx : Nat} (hd : decode code pc = .ok (.checkcast idx, 3)) (pc' : Nat) (G : W l Z R K Q h cc ss pc' ls (.null :: st)) (hp : pc + 3 = pc' := by rfl) : W l Z R K Q h cc ss pc ls (.null :: st) := by
  subst hp
  exact fun T L X N e => Ends.step (fun t k => X.checkcastNull ok.1 (g := mkF K.m pc ls (.null :: st)) rfl rfl (hb ok.2.2.1 hd) _ k) (G T L X N e)
theorem W.instN (ok : Ok Z K y code maxL ret) {idx : Nat} (hd : decode code pc = .ok (.instanceof idx, 3)) (pc' : Nat) (G : W l Z R K Q h cc ss pc' ls (.int 0 :: st)) (hp : pc + 3 = pc' := by rfl) : W l Z R K Q h cc ss pc ls (.null :: st) := by
  subst hp
  exact fun T L X N e => Ends.step (fun t k => X.instanceofNull ok.1 (g := mkF K.m pc ls (.null :: st)) rfl rfl (hb ok.2.2.1 hd) _ k) (G T L X N e)
end Walk
end Jvm.Own
namespace Jvm.Own
open Sem ClassFile Op Lib Jvm.Stand Jvm.Free Jvm.LawKit Jvm.RoadKit
section Dbl
variable {l : Launch} {Z : State} {R : Room} {K : Ctx} {Q : Option Value → Heap → Prop} {h : Heap} {cc ss pc : Nat} {ls : Array Slot} {st : List Value} {y : MethodName} {code : ByteArray} {maxL : Nat} {ret : Option FieldType}
theorem W.dload (ok : Ok Z K y code maxL ret) {k : Nat} {v : UInt64} (hd : decode code pc = .ok (.dload k, 2)) (pc' : Nat) (hl : ls[k]? = some (.val (.double v))) (H : W l Z R K Q h cc ss pc' ls (.double v :: st)) (hp : pc + 2 = pc' := by rfl) : W l Z R K Q h cc ss pc ls (st) := by
  subst hp
  exact fun T L X N e => Ends.step (fun t k => XS.dload X.here ok.1 rfl (hb ok.2.2.1 hd) hl k) (H T L X N e)
theorem W.dloadN (ok : Ok Z K y code maxL ret) {k : Fin 4} {v : UInt64} (hd : decode code pc = .ok (.dload_n k, 1)) (pc' : Nat) (hl : ls[k.val]? = some (.val (.double v))) (H : W l Z R K Q h cc ss pc' ls (.double v :: st)) (hp : pc + 1 = pc' := by rfl) : W l Z R K Q h cc ss pc ls (st) := by
  subst hp
  exact fun T L X N e => Ends.step (fun t k => XS.dloadN X.here ok.1 rfl (hb ok.2.2.1 hd) hl k) (H T L X N e)
theorem W.i2d (ok : Ok Z K y code maxL ret) {x : Int32} (hd : decode code pc = .ok (.i2d, 1)) (pc' : Nat) (H : W l Z R K Q h cc ss pc' ls (.double (FP.i2d x) :: st)) (hp : pc + 1 = pc' := by rfl) : W l Z R K Q h cc ss pc ls (.int x :: st) := by
  subst hp
  exact fun T L X N e => Ends.step (fun t k => XS.i2dS X.here ok.1 rfl (hb ok.2.2.1 hd) rfl rfl k) (H T L X N e)
theorem W.l2d (ok : Ok Z K y code maxL ret) {x : Int64} (hd : decode code pc = .ok (.l2d, 1)) (pc' : Nat) (H : W l Z R K Q h cc ss pc' ls (.double (FP.l2d x) :: st)) (hp : pc + 1 = pc' := by rfl) : W l Z R K Q h cc ss pc ls (.long x :: st) := by
  subst hp
  exact fun T L X N e => Ends.step (fun t k => XS.l2dS X.here ok.1 rfl (hb ok.2.2.1 hd) rfl rfl k) (H T L X N e)
theorem W.dadd (ok : Ok Z K y code maxL ret) {x z : UInt64} (hd : decode code pc = .ok (.dadd, 1)) (pc' : Nat) (hn : Jvm.Free.Fl.NoNaN64 (FP.dadd x z)) (H : W l Z R K Q h cc ss pc' ls (.double (FP.dadd x z) :: st)) (hp : pc + 1 = pc' := by rfl) : W l Z R K Q h cc ss pc ls (.double z :: .double x :: st) := by
  subst hp
  exact fun T L X N e => Ends.step (fun t k => XS.daddS X.here ok.1 rfl (hb ok.2.2.1 hd) rfl hn rfl k) (H T L X N e)
theorem W.dsub (ok : Ok Z K y code maxL ret) {x z : UInt64} (hd : decode code pc = .ok (.dsub, 1)) (pc' : Nat) (hn : Jvm.Free.Fl.NoNaN64 (FP.dsub x z)) (H : W l Z R K Q h cc ss pc' ls (.double (FP.dsub x z) :: st)) (hp : pc + 1 = pc' := by rfl) : W l Z R K Q h cc ss pc ls (.double z :: .double x :: st) := by
  subst hp
  exact fun T L X N e => Ends.step (fun t k => XS.dsubS X.here ok.1 rfl (hb ok.2.2.1 hd) rfl hn rfl k) (H T L X N e)
theorem W.dmul (ok : Ok Z K y code maxL ret) {x z : UInt64} (hd : decode code pc = .ok (.dmul, 1)) (pc' : Nat) (hn : Jvm.Free.Fl.NoNaN64 (FP.dmul x z)) (H : W l Z R K Q h cc ss pc' ls (.double (FP.dmul x z) :: st)) (hp : pc + 1 = pc' := by rfl) : W l Z R K Q h cc ss pc ls (.double z :: .double x :: st) := by
  subst hp
  exact fun T L X N e => Ends.step (fun t k => XS.dmulS X.here ok.1 rfl (hb ok.2.2.1 hd) rfl hn rfl k) (H T L X N e)
theorem W.ddiv (ok : Ok Z K y code maxL ret) {x z : UInt64} (hd : decode code pc = .ok (.ddiv, 1)) (pc' : Nat) (hn : Jvm.Free.Fl.NoNaN64 (FP.ddiv x z)) (H : W l Z R K Q h cc ss pc' ls (.double (FP.ddiv x z) :: st)) (hp : pc + 1 = pc' := by rfl) : W l Z R K Q h cc ss pc ls (.double z :: .double x :: st) := by
  subst hp
  exact fun T L X N e => Ends.step (fun t k => XS.ddivS X.here ok.1 rfl (hb ok.2.2.1 hd) rfl hn rfl k) (H T L X N e)
theorem W.dcmp (ok : Ok Z K y code maxL ret) {x z : UInt64} {o : CmpOp} (hd : decode code pc = .ok (.dcmp o, 1)) (pc' : Nat) (v : Int32) (hv : cmpValue (FP.dcmp x z) o = v) (H : W l Z R K Q h cc ss pc' ls (.int v :: st)) (hp : pc + 1 = pc' := by rfl) : W l Z R K Q h cc ss pc ls (.double z :: .double x :: st) := by
  subst hp
  exact fun T L X N e => Ends.step (fun t k => XS.dcmpS X.here ok.1 rfl (hb ok.2.2.1 hd) rfl hv k) (H T L X N e)
theorem W.dret (ok : Ok Z K y code maxL (some .double)) {v : UInt64} (hd : decode code pc = .ok (.dreturn, 1)) (HQ : Q (some (.double v)) h) (hc : cc ≤ R.cells := by decide) (hs : ss ≤ R.slots := by decide) : W l Z R K Q h cc ss pc ls (.double v :: st) :=
  W.retA ok hd rfl (Or.inr (Or.inr (Or.inl ⟨rfl, rfl, _, rfl⟩))) HQ hc hs
theorem W.tsw (ok : Ok Z K y code maxL ret) {k : Int32} {dflt low high : Int} {offs : Array Int} {len : Nat} (hd : decode code pc = .ok (.tableswitch dflt low high offs, len)) (pc' : Nat) {off : Int} (hin : ¬ (k.toInt < low ∨ k.toInt > high)) (hf : offs[(k.toInt - low).toNat]? = some off) (G : W l Z R K Q h cc ss pc' ls st) (ho : 0 ≤ (pc : Int) + off := by decide) (hp : ((pc : Int) + off).toNat = pc' := by decide) :
    W l Z R K Q h cc ss pc ls (.int k :: st) := by
  subst hp
  exact fun T L X N e => Ends.step (fun t kt => X.tableswitchIn ok.1 (g := mkF K.m pc ls (.int k :: st)) rfl rfl (hb ok.2.2.1 hd) hin hf ho t kt) (G T L X N e)
end Dbl
/-! what the law reckons -/
section Num
open Jvm.FP Jvm.FP.Core
theorem ddiv_int {q d : Int} {x y : UInt64} (hx : DInt (q * d) x) (hy : DInt d y) (hd : d ≠ 0) (hq : q.natAbs ≤ 2 ^ 53) : DInt q (Core.ddiv x y) := by
  unfold DInt at hx hy ⊢
  rw [val64_ddiv]
  generalize val64 x = X at hx
  generalize val64 y = Y at hy
  cases X with
  | nan => exact hx.elim
  | inf => exact hx.elim
  | fin s c e1 =>
  cases Y with
  | nan => exact hy.elim
  | inf => exact hy.elim
  | fin t dd e2 =>
    have hz : dd ≠ 0 := fun z => hd ((whole_zero hy).mp z)
    simp only [quotient, hz, if_false]
    have a1 := whole_natAbs hx
    have a2 := whole_natAbs hy
    have key : c * 1 * 2 ^ (e1 - e2 - 0).toNat = q.natAbs * dd * 2 ^ (0 - (e1 - e2)).toNat := by
      have p1 := Nat.two_pow_pos e1.toNat
      have p2 := Nat.two_pow_pos e2.toNat
      apply Nat.eq_of_mul_eq_mul_right (Nat.mul_pos p1 p2)
      have ex : (-e1).toNat + (e1 - e2 - 0).toNat + e2.toNat = (-e2).toNat + (0 - (e1 - e2)).toNat + e1.toNat := by omega
      have l1 : c * 1 * 2 ^ (e1 - e2 - 0).toNat * (2 ^ e1.toNat * 2 ^ e2.toNat) = (c * 2 ^ e1.toNat) * (2 ^ (e1 - e2 - 0).toNat * 2 ^ e2.toNat) := by
        simp only [Nat.mul_one, Nat.mul_assoc, Nat.mul_comm, Nat.mul_left_comm]
      have l2 : q.natAbs * dd * 2 ^ (0 - (e1 - e2)).toNat * (2 ^ e1.toNat * 2 ^ e2.toNat) = q.natAbs * (dd * 2 ^ e2.toNat) * (2 ^ (0 - (e1 - e2)).toNat * 2 ^ e1.toNat) := by
        simp only [Nat.mul_assoc, Nat.mul_comm, Nat.mul_left_comm]
      rw [l1, l2, a1, a2, Int.natAbs_mul]
      have l3 : q.natAbs * d.natAbs * 2 ^ (-e1).toNat * (2 ^ (e1 - e2 - 0).toNat * 2 ^ e2.toNat) = q.natAbs * d.natAbs * 2 ^ ((-e1).toNat + (e1 - e2 - 0).toNat + e2.toNat) := by
        rw [Nat.pow_add, Nat.pow_add]; simp only [Nat.mul_assoc]
      have l4 : q.natAbs * (d.natAbs * 2 ^ (-e2).toNat) * (2 ^ (0 - (e1 - e2)).toNat * 2 ^ e1.toNat) = q.natAbs * d.natAbs * 2 ^ ((-e2).toNat + (0 - (e1 - e2)).toNat + e1.toNat) := by
        rw [Nat.pow_add, Nat.pow_add]; simp only [Nat.mul_assoc]
      rw [l3, l4, ex]
    rw [roundRatio_congr (A' := q.natAbs) (B' := 1) (e' := 0) (Nat.pos_of_ne_zero hz) (by decide) key]
    refine whole_round (d := .fin (s != t) q.natAbs 0) good_b64 wide_b64 hq ?_
    show signed (s != t) (q.natAbs * 1) = q * ((1 : Nat) : Int)
    rw [Nat.mul_one]
    by_cases h0 : q = 0
    · subst h0; cases (s != t) <;> rfl
    · have hs := whole_sign hx (Int.mul_ne_zero h0 hd)
      have ht := whole_sign hy hd
      subst hs ht
      unfold signed
      rcases Int.lt_or_gt_of_ne h0 with z | z <;> rcases Int.lt_or_gt_of_ne hd with w | w
      · have : ¬ q * d < 0 := by have := Int.mul_pos_of_neg_of_neg z w; omega
        simp [this, w]; omega
      · have : q * d < 0 := Int.mul_neg_of_neg_of_pos z w
        have w2 : ¬ d < 0 := by omega
        simp [this, w2]; omega
      · have : q * d < 0 := Int.mul_neg_of_pos_of_neg z w
        simp [this, w]; omega
      · have : ¬ q * d < 0 := by have := Int.mul_pos z w; omega
        have w2 : ¬ d < 0 := by omega
        simp [this, w2]; omega
theorem dint_no {i : Int} {a : UInt64} (h : DInt i a) : Jvm.Free.Fl.NoNaN64 a := Jvm.Free.Fl.val64_no.mpr fun e => by unfold DInt at h; rw [e] at h; exact h
theorem dint_eq {i : Int} {a b : UInt64} (ha : DInt i a) (hb : DInt i b) (o : CmpOp) : cmpValue (FP.dcmp a b) o = 0 := by
  rw [show FP.dcmp a b = _ from dcmp_int ha hb]
  have : compare i i = .eq := by simp
  rw [this]; rfl
theorem i64 (a : Int32) : a.toInt64.toInt = a.toInt := by simp
theorem i64b (a : Int32) : B53 a.toInt64 := by
  have h1 := a.toInt_lt; have h2 := a.le_toInt; have := i64 a
  exact ⟨by omega, by omega⟩
theorem no_add (a b : Int32) : Jvm.Free.Fl.NoNaN64 (FP.dadd (FP.i2d a) (FP.i2d b)) := nn_w (by rw [i2d_w, i2d_w]; exact dadd_w (i64b a) (i64b b))
theorem eq_add (a b : Int32) (o : CmpOp) : cmpValue (FP.dcmp (FP.dadd (FP.i2d a) (FP.i2d b)) (FP.l2d (a.toInt64 + b.toInt64))) o = 0 := by
  have e : FP.dadd (FP.i2d a) (FP.i2d b) = FP.l2d (a.toInt64 + b.toInt64) := by rw [i2d_w, i2d_w]; exact dadd_w (i64b a) (i64b b)
  rw [e]; exact dcmpV_self (nn_w rfl) o
theorem no_sub (a b : Int32) : Jvm.Free.Fl.NoNaN64 (FP.dsub (FP.i2d a) (FP.i2d b)) := nn_w (by rw [i2d_w, i2d_w]; exact dsub_w (i64b a) (i64b b))
theorem eq_sub (a b : Int32) (o : CmpOp) : cmpValue (FP.dcmp (FP.dsub (FP.i2d a) (FP.i2d b)) (FP.l2d (a.toInt64 - b.toInt64))) o = 0 := by
  have e : FP.dsub (FP.i2d a) (FP.i2d b) = FP.l2d (a.toInt64 - b.toInt64) := by rw [i2d_w, i2d_w]; exact dsub_w (i64b a) (i64b b)
  rw [e]; exact dcmpV_self (nn_w rfl) o
theorem prod_abs {a b : Int} {A B : Nat} (h1 : a.natAbs ≤ A) (h2 : b.natAbs ≤ B) : (a * b).natAbs ≤ A * B := by rw [Int.natAbs_mul]; exact Nat.mul_le_mul h1 h2
theorem mul64 {a b : Int64} {M : Nat} (h : (a.toInt * b.toInt).natAbs ≤ M) (hM : M < 2 ^ 63) : (a * b).toInt = a.toInt * b.toInt := by
  rw [Int64.toInt_mul]; exact Int.bmod_eq_of_le (by omega) (by omega)
theorem mul_cases (a b : Int32) : (FP.dmul (FP.i2d a) (FP.i2d b) = FP.l2d (a.toInt64 * b.toInt64)) ∨ (DInt 0 (FP.dmul (FP.i2d a) (FP.i2d b)) ∧ DInt 0 (FP.l2d (a.toInt64 * b.toInt64))) := by
  by_cases h : a.toInt64 = 0 ∨ b.toInt64 = 0
  · right
    have hz : a.toInt * b.toInt = 0 := by
      rcases h with h | h
      · have := i64 a; rw [h] at this; rw [← this]; simp
      · have := i64 b; rw [h] at this; rw [← this]; simp
    refine ⟨?_, ?_⟩
    · have := dmul_int (i2d_int a) (i2d_int b) (by rw [hz]; decide)
      rw [hz] at this; exact this
    · have hz2 : a.toInt64 * b.toInt64 = 0 := by rcases h with h | h <;> rw [h] <;> simp
      rw [hz2]
      exact l2d_int (a := 0) (by decide)
  · left
    rw [i2d_w, i2d_w]
    have hm : (a.toInt64.toInt * b.toInt64.toInt).natAbs ≤ 2 ^ 31 * 2 ^ 31 := by
      rw [i64, i64]
      have a1 := a.toInt_lt; have a2 := a.le_toInt; have b1 := b.toInt_lt; have b2 := b.le_toInt
      exact prod_abs (by omega) (by omega)
    exact dmul_w (i64b a) (i64b b) (fun q => h (Or.inl q)) (fun q => h (Or.inr q)) (by omega) (by omega)
theorem no_mul (a b : Int32) : Jvm.Free.Fl.NoNaN64 (FP.dmul (FP.i2d a) (FP.i2d b)) := by
  rcases mul_cases a b with h | h
  · exact nn_w h
  · exact dint_no h.1
theorem eq_mul (a b : Int32) (o : CmpOp) : cmpValue (FP.dcmp (FP.dmul (FP.i2d a) (FP.i2d b)) (FP.l2d (a.toInt64 * b.toInt64))) o = 0 := by
  rcases mul_cases a b with h | h
  · rw [h]; exact dcmpV_self (nn_w rfl) o
  · exact dint_eq h.1 h.2 o
/-- the quotient's two figures: at most 2 ^ 25 -/
def q25 (q : Int32) : Prop := q.toInt.natAbs ≤ 2 ^ 25
theorem sh6 (a : Int32) : q25 (a >>> ((6 : Int32) &&& 31)) := by
  rw [show ((6 : Int32) &&& 31) = 6 by decide]
  unfold q25
  have e : (a >>> (6 : Int32)).toInt = a.toInt / 64 := by
    rw [Int32.toInt, Int32.toBitVec_shiftRight, show (Int32.toBitVec 6).smod 32 = 6#32 by decide, BitVec.sshiftRight_eq', BitVec.toInt_sshiftRight, Int.shiftRight_eq_div_pow]; rfl
  have h1 := a.toInt_lt; have h2 := a.le_toInt
  rw [e]; omega
theorem div_int {q d : Int32} (hq : q25 q) (hd : q25 d) (h0 : ¬ (d = 0)) : DInt q.toInt (FP.ddiv (FP.l2d (q.toInt64 * d.toInt64)) (FP.i2d d)) := by
  have hm : (q.toInt64.toInt * d.toInt64.toInt).natAbs ≤ 2 ^ 25 * 2 ^ 25 := by rw [i64, i64]; exact prod_abs hq hd
  have hm2 : (q.toInt64 * d.toInt64).toInt = q.toInt * d.toInt := by rw [mul64 hm (by decide), i64, i64]
  have hx : DInt (q.toInt * d.toInt) (Core.l2d (q.toInt64 * d.toInt64)) := by
    have := l2d_int (a := q.toInt64 * d.toInt64) (by rw [hm2, ← i64 q, ← i64 d]; omega)
    rw [hm2] at this; exact this
  exact ddiv_int hx (i2d_int d) (fun z => h0 (Int32.toInt_inj.mp (z.trans (by decide)))) (by unfold q25 at hq; omega)
theorem no_div {q d : Int32} (hq : q25 q) (hd : q25 d) (h0 : ¬ (d = 0)) : Jvm.Free.Fl.NoNaN64 (FP.ddiv (FP.l2d (q.toInt64 * d.toInt64)) (FP.i2d d)) := dint_no (div_int hq hd h0)
theorem eq_div {q d : Int32} (hq : q25 q) (hd : q25 d) (h0 : ¬ (d = 0)) (o : CmpOp) : cmpValue (FP.dcmp (FP.ddiv (FP.l2d (q.toInt64 * d.toInt64)) (FP.i2d d)) (FP.i2d q)) o = 0 := dint_eq (div_int hq hd h0) (i2d_int q) o
end Num
end Jvm.Own
namespace Jvm.Pilot.@@N@@
open Jvm Jvm.ClassFile Sem Op Lib Jvm.Free Jvm.Stand Jvm.LawKit Jvm.RoadKit Bundle Jvm.Pilot.@@N@@.Jvm.D
theorem d_jdk_37_method_2_0 : decode jdk_37_method_2_code 0 = .ok (.aload_n 0, 1) := by decide +kernel
theorem d_jdk_37_method_2_1 : decode jdk_37_method_2_code 1 = .ok (.getfield 7, 3) := by decide +kernel
theorem d_jdk_37_method_2_4 : decode jdk_37_method_2_code 4 = .ok (.ireturn, 1) := by decide +kernel
theorem d_prog_22_method_4_0 : decode prog_22_method_4_code 0 = .ok (.aload_n 0, 1) := by decide +kernel
theorem d_prog_22_method_4_1 : decode prog_22_method_4_code 1 = .ok (.invokevirtual 35, 3) := by decide +kernel
theorem pd_0 : parseMethodDescriptor "()I" = some ⟨[], some .int⟩ := by decide +kernel
theorem d_prog_22_method_4_4 : decode prog_22_method_4_code 4 = .ok (.tableswitch 32 0 3 #[42, 48, 54, 60], 32) := by decide +kernel
theorem d_prog_22_method_4_46 : decode prog_22_method_4_code 46 = .ok (.dload_n 1, 1) := by decide +kernel
theorem d_prog_22_method_4_47 : decode prog_22_method_4_code 47 = .ok (.dload_n 3, 1) := by decide +kernel
theorem d_prog_22_method_4_48 : decode prog_22_method_4_code 48 = .ok (.dadd, 1) := by decide +kernel
theorem d_prog_22_method_4_49 : decode prog_22_method_4_code 49 = .ok (.goto 18, 3) := by decide +kernel
theorem d_prog_22_method_4_67 : decode prog_22_method_4_code 67 = .ok (.dreturn, 1) := by decide +kernel
theorem d_prog_22_method_4_52 : decode prog_22_method_4_code 52 = .ok (.dload_n 1, 1) := by decide +kernel
theorem d_prog_22_method_4_53 : decode prog_22_method_4_code 53 = .ok (.dload_n 3, 1) := by decide +kernel
theorem d_prog_22_method_4_54 : decode prog_22_method_4_code 54 = .ok (.dsub, 1) := by decide +kernel
theorem d_prog_22_method_4_55 : decode prog_22_method_4_code 55 = .ok (.goto 12, 3) := by decide +kernel
theorem d_prog_22_method_4_58 : decode prog_22_method_4_code 58 = .ok (.dload_n 1, 1) := by decide +kernel
theorem d_prog_22_method_4_59 : decode prog_22_method_4_code 59 = .ok (.dload_n 3, 1) := by decide +kernel
theorem d_prog_22_method_4_60 : decode prog_22_method_4_code 60 = .ok (.dmul, 1) := by decide +kernel
theorem d_prog_22_method_4_61 : decode prog_22_method_4_code 61 = .ok (.goto 6, 3) := by decide +kernel
theorem d_prog_22_method_4_64 : decode prog_22_method_4_code 64 = .ok (.dload_n 1, 1) := by decide +kernel
theorem d_prog_22_method_4_65 : decode prog_22_method_4_code 65 = .ok (.dload_n 3, 1) := by decide +kernel
theorem d_prog_22_method_4_66 : decode prog_22_method_4_code 66 = .ok (.ddiv, 1) := by decide +kernel
theorem pd_1 : parseMethodDescriptor "(DD)D" = some ⟨[.double, .double], some .double⟩ := by decide +kernel
set_option maxRecDepth 65536 in
set_option maxHeartbeats 4000000 in
theorem c_ord (l : Launch) {Z : State} {a0 : Array Value} (tb : Own.Tb Z a0 tables_1) (a : Addr) (k : Int32) (h : Heap) (F : Fld Z h a "java/lang/Enum" "ordinal" "I" (.int k)) :
    Own.Con l Z (⟨"java/lang/Enum", "ordinal", "()I"⟩ : MethodName) jdk_37_method_2_code 1 (some .int) ({ frames := 0, cells := 0, slots := 0, locals := 0 } : Room) #[(.ref a)] h (fun rr h' => rr = some (.int k) ∧ h = h') := by
  refine Own.Con.of (plainFor_of_name (by first | (simp [plainName, overriddenIn]; done) | decide +kernel)) #[.val (.ref a)] (fun m => by first | rfl | (simp [entryFrame, mkF, argsToLocals, Value.category, maxLocals]; done)) (fun K ok => ?_)
  refine Own.W.aloadN ok d_jdk_37_method_2_0 1 rfl rfl ?_
  refine Own.W.getF ok tb 15 rfl Via.refl F d_jdk_37_method_2_1 4 ?_
  exact Own.W.iret ok d_jdk_37_method_2_4 rfl ⟨rfl, rfl⟩
set_option maxRecDepth 65536 in
set_option maxHeartbeats 4000000 in
theorem c_app0 (l : Launch) {Z : State} {a0 : Array Value} (tb : Own.Tb Z a0 tables_1) (a : Addr) (x : UInt64) (y : UInt64) (h : Heap) (EX : Exa Z h a "com/example/spikewright/spikewright/model/Expr$Operator") (F : Fld Z h a "java/lang/Enum" "ordinal" "I" (.int (0 : Int32))) (NN : Jvm.Free.Fl.NoNaN64 (FP.dadd x y)) :
    Own.Con l Z (⟨"com/example/spikewright/spikewright/model/Expr$Operator", "apply", "(DD)D"⟩ : MethodName) prog_22_method_4_code 5 (some .double) ({ frames := 1, cells := 0, slots := 0, locals := 12 } : Room) #[(.ref a), (.double x), (.double y)] h (fun rr h' => rr = some (.double (FP.dadd x y)) ∧ h = h') := by
  refine Own.Con.of (plainFor_of_name (by first | (simp [plainName, overriddenIn]; done) | decide +kernel)) #[.val (.ref a), .val (.double x), .second, .val (.double y), .second] (fun m => by first | rfl | (simp [entryFrame, mkF, argsToLocals, Value.category, maxLocals]; done)) (fun K ok => ?_)
  refine Own.W.aloadN ok d_prog_22_method_4_0 1 rfl rfl ?_
  refine Own.W.callU ok tb (a := a) (argsL := []) (rest := []) 8 10 12 11 14 13 9 rfl rfl rfl rfl rfl rfl rfl EX d_prog_22_method_4_1 pd_0 (c_ord l tb a (0 : Int32) h F) 0 0 0 4 ?_
  rintro _ _ ⟨rfl, rfl⟩
  show Own.W l Z _ K _ h 0 0 4 #[.val (.ref a), .val (.double x), .second, .val (.double y), .second] [(.int (0 : Int32))]
  refine Own.W.tsw ok d_prog_22_method_4_4 46 (off := 42) (by decide) (by decide) ?_
  refine Own.W.dloadN ok d_prog_22_method_4_46 47 rfl ?_
  refine Own.W.dloadN ok d_prog_22_method_4_47 48 rfl ?_
  refine Own.W.dadd ok d_prog_22_method_4_48 49 NN ?_
  refine Own.W.goto ok d_prog_22_method_4_49 67 ?_
  exact Own.W.dret ok d_prog_22_method_4_67 ⟨rfl, rfl⟩
set_option maxRecDepth 65536 in
set_option maxHeartbeats 4000000 in
theorem c_app1 (l : Launch) {Z : State} {a0 : Array Value} (tb : Own.Tb Z a0 tables_1) (a : Addr) (x : UInt64) (y : UInt64) (h : Heap) (EX : Exa Z h a "com/example/spikewright/spikewright/model/Expr$Operator") (F : Fld Z h a "java/lang/Enum" "ordinal" "I" (.int (1 : Int32))) (NN : Jvm.Free.Fl.NoNaN64 (FP.dsub x y)) :
    Own.Con l Z (⟨"com/example/spikewright/spikewright/model/Expr$Operator", "apply", "(DD)D"⟩ : MethodName) prog_22_method_4_code 5 (some .double) ({ frames := 1, cells := 0, slots := 0, locals := 12 } : Room) #[(.ref a), (.double x), (.double y)] h (fun rr h' => rr = some (.double (FP.dsub x y)) ∧ h = h') := by
  refine Own.Con.of (plainFor_of_name (by first | (simp [plainName, overriddenIn]; done) | decide +kernel)) #[.val (.ref a), .val (.double x), .second, .val (.double y), .second] (fun m => by first | rfl | (simp [entryFrame, mkF, argsToLocals, Value.category, maxLocals]; done)) (fun K ok => ?_)
  refine Own.W.aloadN ok d_prog_22_method_4_0 1 rfl rfl ?_
  refine Own.W.callU ok tb (a := a) (argsL := []) (rest := []) 8 10 12 11 14 13 9 rfl rfl rfl rfl rfl rfl rfl EX d_prog_22_method_4_1 pd_0 (c_ord l tb a (1 : Int32) h F) 0 0 0 4 ?_
  rintro _ _ ⟨rfl, rfl⟩
  show Own.W l Z _ K _ h 0 0 4 #[.val (.ref a), .val (.double x), .second, .val (.double y), .second] [(.int (1 : Int32))]
  refine Own.W.tsw ok d_prog_22_method_4_4 52 (off := 48) (by decide) (by decide) ?_
  refine Own.W.dloadN ok d_prog_22_method_4_52 53 rfl ?_
  refine Own.W.dloadN ok d_prog_22_method_4_53 54 rfl ?_
  refine Own.W.dsub ok d_prog_22_method_4_54 55 NN ?_
  refine Own.W.goto ok d_prog_22_method_4_55 67 ?_
  exact Own.W.dret ok d_prog_22_method_4_67 ⟨rfl, rfl⟩
set_option maxRecDepth 65536 in
set_option maxHeartbeats 4000000 in
theorem c_app2 (l : Launch) {Z : State} {a0 : Array Value} (tb : Own.Tb Z a0 tables_1) (a : Addr) (x : UInt64) (y : UInt64) (h : Heap) (EX : Exa Z h a "com/example/spikewright/spikewright/model/Expr$Operator") (F : Fld Z h a "java/lang/Enum" "ordinal" "I" (.int (2 : Int32))) (NN : Jvm.Free.Fl.NoNaN64 (FP.dmul x y)) :
    Own.Con l Z (⟨"com/example/spikewright/spikewright/model/Expr$Operator", "apply", "(DD)D"⟩ : MethodName) prog_22_method_4_code 5 (some .double) ({ frames := 1, cells := 0, slots := 0, locals := 12 } : Room) #[(.ref a), (.double x), (.double y)] h (fun rr h' => rr = some (.double (FP.dmul x y)) ∧ h = h') := by
  refine Own.Con.of (plainFor_of_name (by first | (simp [plainName, overriddenIn]; done) | decide +kernel)) #[.val (.ref a), .val (.double x), .second, .val (.double y), .second] (fun m => by first | rfl | (simp [entryFrame, mkF, argsToLocals, Value.category, maxLocals]; done)) (fun K ok => ?_)
  refine Own.W.aloadN ok d_prog_22_method_4_0 1 rfl rfl ?_
  refine Own.W.callU ok tb (a := a) (argsL := []) (rest := []) 8 10 12 11 14 13 9 rfl rfl rfl rfl rfl rfl rfl EX d_prog_22_method_4_1 pd_0 (c_ord l tb a (2 : Int32) h F) 0 0 0 4 ?_
  rintro _ _ ⟨rfl, rfl⟩
  show Own.W l Z _ K _ h 0 0 4 #[.val (.ref a), .val (.double x), .second, .val (.double y), .second] [(.int (2 : Int32))]
  refine Own.W.tsw ok d_prog_22_method_4_4 58 (off := 54) (by decide) (by decide) ?_
  refine Own.W.dloadN ok d_prog_22_method_4_58 59 rfl ?_
  refine Own.W.dloadN ok d_prog_22_method_4_59 60 rfl ?_
  refine Own.W.dmul ok d_prog_22_method_4_60 61 NN ?_
  refine Own.W.goto ok d_prog_22_method_4_61 67 ?_
  exact Own.W.dret ok d_prog_22_method_4_67 ⟨rfl, rfl⟩
set_option maxRecDepth 65536 in
set_option maxHeartbeats 4000000 in
theorem c_app3 (l : Launch) {Z : State} {a0 : Array Value} (tb : Own.Tb Z a0 tables_1) (a : Addr) (x : UInt64) (y : UInt64) (h : Heap) (EX : Exa Z h a "com/example/spikewright/spikewright/model/Expr$Operator") (F : Fld Z h a "java/lang/Enum" "ordinal" "I" (.int (3 : Int32))) (NN : Jvm.Free.Fl.NoNaN64 (FP.ddiv x y)) :
    Own.Con l Z (⟨"com/example/spikewright/spikewright/model/Expr$Operator", "apply", "(DD)D"⟩ : MethodName) prog_22_method_4_code 5 (some .double) ({ frames := 1, cells := 0, slots := 0, locals := 12 } : Room) #[(.ref a), (.double x), (.double y)] h (fun rr h' => rr = some (.double (FP.ddiv x y)) ∧ h = h') := by
  refine Own.Con.of (plainFor_of_name (by first | (simp [plainName, overriddenIn]; done) | decide +kernel)) #[.val (.ref a), .val (.double x), .second, .val (.double y), .second] (fun m => by first | rfl | (simp [entryFrame, mkF, argsToLocals, Value.category, maxLocals]; done)) (fun K ok => ?_)
  refine Own.W.aloadN ok d_prog_22_method_4_0 1 rfl rfl ?_
  refine Own.W.callU ok tb (a := a) (argsL := []) (rest := []) 8 10 12 11 14 13 9 rfl rfl rfl rfl rfl rfl rfl EX d_prog_22_method_4_1 pd_0 (c_ord l tb a (3 : Int32) h F) 0 0 0 4 ?_
  rintro _ _ ⟨rfl, rfl⟩
  show Own.W l Z _ K _ h 0 0 4 #[.val (.ref a), .val (.double x), .second, .val (.double y), .second] [(.int (3 : Int32))]
  refine Own.W.tsw ok d_prog_22_method_4_4 64 (off := 60) (by decide) (by decide) ?_
  refine Own.W.dloadN ok d_prog_22_method_4_64 65 rfl ?_
  refine Own.W.dloadN ok d_prog_22_method_4_65 66 rfl ?_
  refine Own.W.ddiv ok d_prog_22_method_4_66 67 NN ?_
  exact Own.W.dret ok d_prog_22_method_4_67 ⟨rfl, rfl⟩
set_option maxRecDepth 65536 in
set_option maxHeartbeats 4000000 in
theorem c_law (l : Launch) {Z : State} {a0 : Array Value} (tb : Own.Tb Z a0 tables_1) (u0 : Int32) (u1 : Int32) (u2 : Int32) (x0 : Addr) (x1 : Addr) (x2 : Addr) (x3 : Addr) (h : Heap) (cs : List (Addr × Own.Pc)) (H : Own.HS Z h (cs)) (S0 : Sta Z Z.heap "com/example/spikewright/spikewright/model/Expr$Operator" "ADD" "Lcom/example/spikewright/spikewright/model/Expr$Operator;" (.ref x0)) (E0 : Exa Z Z.heap x0 "com/example/spikewright/spikewright/model/Expr$Operator") (F0 : Fld Z Z.heap x0 "java/lang/Enum" "ordinal" "I" (.int (0 : Int32))) (S1 : Sta Z Z.heap "com/example/spikewright/spikewright/model/Expr$Operator" "SUBTRACT" "Lcom/example/spikewright/spikewright/model/Expr$Operator;" (.ref x1)) (E1 : Exa Z Z.heap x1 "com/example/spikewright/spikewright/model/Expr$Operator") (F1 : Fld Z Z.heap x1 "java/lang/Enum" "ordinal" "I" (.int (1 : Int32))) (S2 : Sta Z Z.heap "com/example/spikewright/spikewright/model/Expr$Operator" "MULTIPLY" "Lcom/example/spikewright/spikewright/model/Expr$Operator;" (.ref x2)) (E2 : Exa Z Z.heap x2 "com/example/spikewright/spikewright/model/Expr$Operator") (F2 : Fld Z Z.heap x2 "java/lang/Enum" "ordinal" "I" (.int (2 : Int32))) (S3 : Sta Z Z.heap "com/example/spikewright/spikewright/model/Expr$Operator" "DIVIDE" "Lcom/example/spikewright/spikewright/model/Expr$Operator;" (.ref x3)) (E3 : Exa Z Z.heap x3 "com/example/spikewright/spikewright/model/Expr$Operator") (F3 : Fld Z Z.heap x3 "java/lang/Enum" "ordinal" "I" (.int (3 : Int32))) :
    Own.Con l Z x code maxLocals ret room_1 #[(.int u0), (.int u1), (.int u2)] h (fun rr h' => rr = some (.int (1 : Int32)) ∧ True) := by
  refine Own.Con.of (plainFor_of_name (by first | (simp [plainName, overriddenIn]; done) | decide +kernel)) #[.val (.int u0), .val (.int u1), .val (.int u2), .unset, .unset, .unset, .unset, .unset] (fun m => by first | rfl | (simp [entryFrame, mkF, argsToLocals, Value.category, maxLocals]; done)) (fun K ok => ?_)
  refine Own.W.iloadN ok at_0 1 rfl ?_
  refine Own.W.iconst ok at_1 2 (3 : Int32) rfl ?_
  refine Own.W.iand ok at_2 3 ?_
  refine Own.W.istoreN ok at_3 4 #[.val (.int u0), .val (.int u1), .val (.int u2), .val (.int (u0 &&& (3 : Int32))), .unset, .unset, .unset, .unset] rfl ?_
  refine Own.W.iloadN ok at_4 5 rfl ?_
  refine Own.W.iff ok at_5 34 8 (fun (hc1 : ¬ ((u0 &&& (3 : Int32)) = (0 : Int32))) => ?_) (fun (hc1 : (u0 &&& (3 : Int32)) = (0 : Int32)) => ?_)
  · refine Own.W.iloadN ok at_34 35 rfl ?_
    refine Own.W.iconst ok at_35 36 (1 : Int32) rfl ?_
    refine Own.W.icmp ok at_36 65 39 (fun (hc2 : ¬ ((u0 &&& (3 : Int32)) = (1 : Int32))) => ?_) (fun (hc2 : (u0 &&& (3 : Int32)) = (1 : Int32)) => ?_)
    · refine Own.W.iloadN ok at_65 66 rfl ?_
      refine Own.W.iconst ok at_66 67 (2 : Int32) rfl ?_
      refine Own.W.icmp ok at_67 96 70 (fun (hc3 : ¬ ((u0 &&& (3 : Int32)) = (2 : Int32))) => ?_) (fun (hc3 : (u0 &&& (3 : Int32)) = (2 : Int32)) => ?_)
      · refine Own.W.iloadN ok at_96 97 rfl ?_
        refine Own.W.bipush ok at_97 99 (6 : Int32) rfl ?_
        refine Own.W.ishr ok at_99 100 ?_
        refine Own.W.istore ok at_100 102 #[.val (.int u0), .val (.int u1), .val (.int u2), .val (.int (u0 &&& (3 : Int32))), .val (.int (u1 >>> ((6 : Int32) &&& 31))), .unset, .unset, .unset] rfl ?_
        refine Own.W.iloadN ok at_102 103 rfl ?_
        refine Own.W.bipush ok at_103 105 (6 : Int32) rfl ?_
        refine Own.W.ishr ok at_105 106 ?_
        refine Own.W.istore ok at_106 108 #[.val (.int u0), .val (.int u1), .val (.int u2), .val (.int (u0 &&& (3 : Int32))), .val (.int (u1 >>> ((6 : Int32) &&& 31))), .val (.int (u2 >>> ((6 : Int32) &&& 31))), .unset, .unset] rfl ?_
        refine Own.W.iload ok at_108 110 rfl ?_
        refine Own.W.iff ok at_110 116 113 (fun (hc4 : ¬ ((u2 >>> ((6 : Int32) &&& 31)) = (0 : Int32))) => ?_) (fun (hc4 : (u2 >>> ((6 : Int32) &&& 31)) = (0 : Int32)) => ?_)
        · refine Own.W.iload ok at_116 118 rfl ?_
          refine Own.W.i2l ok at_118 119 ?_
          refine Own.W.iload ok at_119 121 rfl ?_
          refine Own.W.i2l ok at_121 122 ?_
          refine Own.W.lmul ok at_122 123 ?_
          refine Own.W.lstore ok at_123 125 #[.val (.int u0), .val (.int u1), .val (.int u2), .val (.int (u0 &&& (3 : Int32))), .val (.int (u1 >>> ((6 : Int32) &&& 31))), .val (.int (u2 >>> ((6 : Int32) &&& 31))), .val (.long (((u1 >>> ((6 : Int32) &&& 31)).toInt64) * ((u2 >>> ((6 : Int32) &&& 31)).toInt64))), .second] rfl ?_
          refine Own.W.getS ok tb 19 rfl Via.refl (H.sta S3) at_125 128 ?_
          refine Own.W.lload ok at_128 130 rfl ?_
          refine Own.W.l2d ok at_130 131 ?_
          refine Own.W.iload ok at_131 133 rfl ?_
          refine Own.W.i2d ok at_133 134 ?_
          refine Own.W.callV ok tb (a := x3) (argsL := [(.double (FP.l2d (((u1 >>> ((6 : Int32) &&& 31)).toInt64) * ((u2 >>> ((6 : Int32) &&& 31)).toInt64)))), (.double (FP.i2d (u2 >>> ((6 : Int32) &&& 31))))]) (rest := []) 3 4 6 5 7 1 rfl rfl rfl rfl rfl rfl (notFace_of_selects (args := #[]) (mvT ok.2.1 (tb _ (List.mem_of_getElem? (i := 6) rfl)))) (E3.ext H.1) at_134 pd_1 (c_app3 l tb x3 (FP.l2d (((u1 >>> ((6 : Int32) &&& 31)).toInt64) * ((u2 >>> ((6 : Int32) &&& 31)).toInt64))) (FP.i2d (u2 >>> ((6 : Int32) &&& 31))) h (E3.ext H.1) (F3.ext H.1) (Own.no_div (Own.sh6 u1) (Own.sh6 u2) hc4)) 0 0 0 137 ?_
          rintro _ _ ⟨rfl, rfl⟩
          show Own.W l Z _ K _ h 0 0 137 #[.val (.int u0), .val (.int u1), .val (.int u2), .val (.int (u0 &&& (3 : Int32))), .val (.int (u1 >>> ((6 : Int32) &&& 31))), .val (.int (u2 >>> ((6 : Int32) &&& 31))), .val (.long (((u1 >>> ((6 : Int32) &&& 31)).toInt64) * ((u2 >>> ((6 : Int32) &&& 31)).toInt64))), .second] [(.double (FP.ddiv (FP.l2d (((u1 >>> ((6 : Int32) &&& 31)).toInt64) * ((u2 >>> ((6 : Int32) &&& 31)).toInt64))) (FP.i2d (u2 >>> ((6 : Int32) &&& 31)))))]
          refine Own.W.iload ok at_137 139 rfl ?_
          refine Own.W.i2d ok at_139 140 ?_
          refine Own.W.dcmp ok at_140 141 (0 : Int32) (Own.eq_div (Own.sh6 u1) (Own.sh6 u2) hc4 .l) ?_
          refine Own.W.ifF ok at_141 144 (by decide : (0 : Int32) = (0 : Int32)) ?_
          refine Own.W.iconst ok at_144 145 (1 : Int32) rfl ?_
          refine Own.W.goto ok at_145 149 ?_
          exact Own.W.iret ok at_149 rfl ⟨rfl, trivial⟩
        · refine Own.W.iconst ok at_113 114 (1 : Int32) rfl ?_
          refine Own.W.istore ok at_114 116 #[.val (.int u0), .val (.int u1), .val (.int u2), .val (.int (u0 &&& (3 : Int32))), .val (.int (u1 >>> ((6 : Int32) &&& 31))), .val (.int (1 : Int32)), .unset, .unset] rfl ?_
          refine Own.W.iload ok at_116 118 rfl ?_
          refine Own.W.i2l ok at_118 119 ?_
          refine Own.W.iload ok at_119 121 rfl ?_
          refine Own.W.i2l ok at_121 122 ?_
          refine Own.W.lmul ok at_122 123 ?_
          refine Own.W.lstore ok at_123 125 #[.val (.int u0), .val (.int u1), .val (.int u2), .val (.int (u0 &&& (3 : Int32))), .val (.int (u1 >>> ((6 : Int32) &&& 31))), .val (.int (1 : Int32)), .val (.long (((u1 >>> ((6 : Int32) &&& 31)).toInt64) * ((1 : Int32).toInt64))), .second] rfl ?_
          refine Own.W.getS ok tb 19 rfl Via.refl (H.sta S3) at_125 128 ?_
          refine Own.W.lload ok at_128 130 rfl ?_
          refine Own.W.l2d ok at_130 131 ?_
          refine Own.W.iload ok at_131 133 rfl ?_
          refine Own.W.i2d ok at_133 134 ?_
          refine Own.W.callV ok tb (a := x3) (argsL := [(.double (FP.l2d (((u1 >>> ((6 : Int32) &&& 31)).toInt64) * ((1 : Int32).toInt64)))), (.double (FP.i2d (1 : Int32)))]) (rest := []) 3 4 6 5 7 1 rfl rfl rfl rfl rfl rfl (notFace_of_selects (args := #[]) (mvT ok.2.1 (tb _ (List.mem_of_getElem? (i := 6) rfl)))) (E3.ext H.1) at_134 pd_1 (c_app3 l tb x3 (FP.l2d (((u1 >>> ((6 : Int32) &&& 31)).toInt64) * ((1 : Int32).toInt64))) (FP.i2d (1 : Int32)) h (E3.ext H.1) (F3.ext H.1) (Own.no_div (Own.sh6 u1) (by unfold Own.q25; decide) (by decide))) 0 0 0 137 ?_
          rintro _ _ ⟨rfl, rfl⟩
          show Own.W l Z _ K _ h 0 0 137 #[.val (.int u0), .val (.int u1), .val (.int u2), .val (.int (u0 &&& (3 : Int32))), .val (.int (u1 >>> ((6 : Int32) &&& 31))), .val (.int (1 : Int32)), .val (.long (((u1 >>> ((6 : Int32) &&& 31)).toInt64) * ((1 : Int32).toInt64))), .second] [(.double (FP.ddiv (FP.l2d (((u1 >>> ((6 : Int32) &&& 31)).toInt64) * ((1 : Int32).toInt64))) (FP.i2d (1 : Int32))))]
          refine Own.W.iload ok at_137 139 rfl ?_
          refine Own.W.i2d ok at_139 140 ?_
          refine Own.W.dcmp ok at_140 141 (0 : Int32) (Own.eq_div (Own.sh6 u1) (by unfold Own.q25; decide) (by decide) .l) ?_
          refine Own.W.ifF ok at_141 144 (by decide : (0 : Int32) = (0 : Int32)) ?_
          refine Own.W.iconst ok at_144 145 (1 : Int32) rfl ?_
          refine Own.W.goto ok at_145 149 ?_
          exact Own.W.iret ok at_149 rfl ⟨rfl, trivial⟩
      · refine Own.W.getS ok tb 21 rfl Via.refl (H.sta S2) at_70 73 ?_
        refine Own.W.iloadN ok at_73 74 rfl ?_
        refine Own.W.i2d ok at_74 75 ?_
        refine Own.W.iloadN ok at_75 76 rfl ?_
        refine Own.W.i2d ok at_76 77 ?_
        refine Own.W.callV ok tb (a := x2) (argsL := [(.double (FP.i2d u1)), (.double (FP.i2d u2))]) (rest := []) 3 4 6 5 7 1 rfl rfl rfl rfl rfl rfl (notFace_of_selects (args := #[]) (mvT ok.2.1 (tb _ (List.mem_of_getElem? (i := 6) rfl)))) (E2.ext H.1) at_77 pd_1 (c_app2 l tb x2 (FP.i2d u1) (FP.i2d u2) h (E2.ext H.1) (F2.ext H.1) (Own.no_mul u1 u2)) 0 0 0 80 ?_
        rintro _ _ ⟨rfl, rfl⟩
        show Own.W l Z _ K _ h 0 0 80 #[.val (.int u0), .val (.int u1), .val (.int u2), .val (.int (u0 &&& (3 : Int32))), .unset, .unset, .unset, .unset] [(.double (FP.dmul (FP.i2d u1) (FP.i2d u2)))]
        refine Own.W.iloadN ok at_80 81 rfl ?_
        refine Own.W.i2l ok at_81 82 ?_
        refine Own.W.iloadN ok at_82 83 rfl ?_
        refine Own.W.i2l ok at_83 84 ?_
        refine Own.W.lmul ok at_84 85 ?_
        refine Own.W.l2d ok at_85 86 ?_
        refine Own.W.dcmp ok at_86 87 (0 : Int32) (Own.eq_mul u1 u2 .l) ?_
        refine Own.W.ifF ok at_87 90 (by decide : (0 : Int32) = (0 : Int32)) ?_
        refine Own.W.iconst ok at_90 91 (1 : Int32) rfl ?_
        refine Own.W.goto ok at_91 95 ?_
        exact Own.W.iret ok at_95 rfl ⟨rfl, trivial⟩
    · refine Own.W.getS ok tb 17 rfl Via.refl (H.sta S1) at_39 42 ?_
      refine Own.W.iloadN ok at_42 43 rfl ?_
      refine Own.W.i2d ok at_43 44 ?_
      refine Own.W.iloadN ok at_44 45 rfl ?_
      refine Own.W.i2d ok at_45 46 ?_
      refine Own.W.callV ok tb (a := x1) (argsL := [(.double (FP.i2d u1)), (.double (FP.i2d u2))]) (rest := []) 3 4 6 5 7 1 rfl rfl rfl rfl rfl rfl (notFace_of_selects (args := #[]) (mvT ok.2.1 (tb _ (List.mem_of_getElem? (i := 6) rfl)))) (E1.ext H.1) at_46 pd_1 (c_app1 l tb x1 (FP.i2d u1) (FP.i2d u2) h (E1.ext H.1) (F1.ext H.1) (Own.no_sub u1 u2)) 0 0 0 49 ?_
      rintro _ _ ⟨rfl, rfl⟩
      show Own.W l Z _ K _ h 0 0 49 #[.val (.int u0), .val (.int u1), .val (.int u2), .val (.int (u0 &&& (3 : Int32))), .unset, .unset, .unset, .unset] [(.double (FP.dsub (FP.i2d u1) (FP.i2d u2)))]
      refine Own.W.iloadN ok at_49 50 rfl ?_
      refine Own.W.i2l ok at_50 51 ?_
      refine Own.W.iloadN ok at_51 52 rfl ?_
      refine Own.W.i2l ok at_52 53 ?_
      refine Own.W.lsub ok at_53 54 ?_
      refine Own.W.l2d ok at_54 55 ?_
      refine Own.W.dcmp ok at_55 56 (0 : Int32) (Own.eq_sub u1 u2 .l) ?_
      refine Own.W.ifF ok at_56 59 (by decide : (0 : Int32) = (0 : Int32)) ?_
      refine Own.W.iconst ok at_59 60 (1 : Int32) rfl ?_
      refine Own.W.goto ok at_60 64 ?_
      exact Own.W.iret ok at_64 rfl ⟨rfl, trivial⟩
  · refine Own.W.getS ok tb 0 rfl Via.refl (H.sta S0) at_8 11 ?_
    refine Own.W.iloadN ok at_11 12 rfl ?_
    refine Own.W.i2d ok at_12 13 ?_
    refine Own.W.iloadN ok at_13 14 rfl ?_
    refine Own.W.i2d ok at_14 15 ?_
    refine Own.W.callV ok tb (a := x0) (argsL := [(.double (FP.i2d u1)), (.double (FP.i2d u2))]) (rest := []) 3 4 6 5 7 1 rfl rfl rfl rfl rfl rfl (notFace_of_selects (args := #[]) (mvT ok.2.1 (tb _ (List.mem_of_getElem? (i := 6) rfl)))) (E0.ext H.1) at_15 pd_1 (c_app0 l tb x0 (FP.i2d u1) (FP.i2d u2) h (E0.ext H.1) (F0.ext H.1) (Own.no_add u1 u2)) 0 0 0 18 ?_
    rintro _ _ ⟨rfl, rfl⟩
    show Own.W l Z _ K _ h 0 0 18 #[.val (.int u0), .val (.int u1), .val (.int u2), .val (.int (u0 &&& (3 : Int32))), .unset, .unset, .unset, .unset] [(.double (FP.dadd (FP.i2d u1) (FP.i2d u2)))]
    refine Own.W.iloadN ok at_18 19 rfl ?_
    refine Own.W.i2l ok at_19 20 ?_
    refine Own.W.iloadN ok at_20 21 rfl ?_
    refine Own.W.i2l ok at_21 22 ?_
    refine Own.W.ladd ok at_22 23 ?_
    refine Own.W.l2d ok at_23 24 ?_
    refine Own.W.dcmp ok at_24 25 (0 : Int32) (Own.eq_add u1 u2 .l) ?_
    refine Own.W.ifF ok at_25 28 (by decide : (0 : Int32) = (0 : Int32)) ?_
    refine Own.W.iconst ok at_28 29 (1 : Int32) rfl ?_
    refine Own.W.goto ok at_29 33 ?_
    exact Own.W.iret ok at_33 rfl ⟨rfl, trivial⟩
set_option maxRecDepth 65536 in
set_option maxHeartbeats 4000000 in
theorem comes_1 {Post : Tables → Env → Array Value → State → Outcome → State → Prop} (hpost : ∀ tb e args s v u, (limb_1_1.after args s (.returned v) u = true ∧ limb_1_2.after args s (.returned v) u = true ∧ True) → FrameEnd s (.returned v) u (Jvm.fieldLocs frame_1_writes args s ++ Jvm.arrayLocs frame_1_arrays args s ++ Jvm.staticLocs frame_1_statics s) 0 0 → Post tb e args s (.returned v) u) :
    ArmFor flags0 classFile x code maxLocals ret World_1 tables_1 room_1 Calls_1 rest_1 Pre_1 Post := by
  intro l hfl _ _ p e ha hc hk s m args below hf hA hF happ hP
  obtain ⟨hcalls, hrest, hpre⟩ := hP
  obtain ⟨-, -, -, hnamed, -, -, -, hat⟩ := (Spec.applies_iff hf).mp happ
  obtain ⟨hg, hn⟩ := and_e (Cond.before_iff.mp (show (Jvm.Cond.and given_1 narrow_1).before args s = true from hpre))
  obtain ⟨hg0, hr0⟩ := and_e hg
  obtain ⟨hg1, hr1⟩ := and_e hr0
  obtain ⟨hg2, hr2⟩ := and_e hr1
  obtain ⟨w0, w1, w2, rfl⟩ : ∃ w0 w1 w2 : Value, args = #[w0, w1, w2] := by
    have hs : args.size = 3 := by simpa [Cond.value, given_1] using hg0
    obtain ⟨L⟩ := args
    match L, hs with
    | [w0, w1, w2], _ => exact ⟨w0, w1, w2, rfl⟩
  have hw := fun d (hd : d ∈ tables_1) => atoms_spec (ws := Jvm.Cond.code x code maxLocals ret :: tables_1) hat d (List.mem_cons_of_mem _ hd)
  have hfit : Fit s := fun {y c} hc i hi => by
    obtain ⟨ha, rfl⟩ := Array.getElem?_eq_some_iff.mp hc
    have q := List.all_eq_true.mp ((Array.all_eq_true_iff_forall_mem.mp hF) _ (Array.getElem_mem ha)) i (List.mem_range.mpr hi)
    simpa [Array.getElem?_eq_getElem hi] using q
  obtain ⟨i0, ei0⟩ := is_v hg1
  obtain rfl : w0 = (.int i0) := Option.some.inj ei0
  obtain ⟨i1, ei1⟩ := is_v hg2
  obtain rfl : w1 = (.int i1) := Option.some.inj ei1
  obtain ⟨i2, ei2⟩ := is_v hr2
  obtain rfl : w2 = (.int i2) := Option.some.inj ei2
  obtain ⟨c0, r0⟩ := and_e hn
  obtain ⟨c1, r1⟩ := and_e r0
  obtain ⟨c2, r2⟩ := and_e r1
  obtain ⟨c3, r3⟩ := and_e r2
  obtain ⟨c4, r4⟩ := and_e r3
  obtain ⟨c5, r5⟩ := and_e r4
  obtain ⟨c6, r6⟩ := and_e r5
  obtain ⟨x0, ev0, st0, ex0⟩ := Own.st_ref c0 (Or.inr ⟨hw _ (List.mem_of_getElem? (i := 1) rfl), hw _ (List.mem_of_getElem? (i := 2) rfl)⟩)
  have od0 := Own.fl_of ev0 c1
  obtain ⟨x1, ev1, st1, ex1⟩ := Own.st_ref c2 (Or.inr ⟨hw _ (List.mem_of_getElem? (i := 1) rfl), hw _ (List.mem_of_getElem? (i := 18) rfl)⟩)
  have od1 := Own.fl_of ev1 c3
  obtain ⟨x2, ev2, st2, ex2⟩ := Own.st_ref c6 (Or.inr ⟨hw _ (List.mem_of_getElem? (i := 1) rfl), hw _ (List.mem_of_getElem? (i := 22) rfl)⟩)
  have od2 := Own.fl_of ev2 r6
  obtain ⟨x3, ev3, st3, ex3⟩ := Own.st_ref c4 (Or.inr ⟨hw _ (List.mem_of_getElem? (i := 1) rfl), hw _ (List.mem_of_getElem? (i := 20) rfl)⟩)
  have od3 := Own.fl_of ev3 c5
  obtain ⟨n, o, h1, h2, h3, _, L, rfl, ⟨⟨rfl, -⟩, N⟩, hq⟩ := c_law l hw i0 i1 i2 x0 x1 x2 x3 s.heap [] (Own.HS.nil s) st0 ex0 od0 st1 ex1 od1 st2 ex2 od2 st3 ex3 od3 tables_1 p e ha hc hk s m _ below hf ((Spec.applies_iff_loose hf).mp happ).1 ⟨rfl, State.Warmed39.refl s, rfl⟩ trivial
  refine ⟨n, _, h1, h2, h3, hpost _ _ _ _ _ _ ⟨Cond.after_iff.mpr rfl, Cond.after_iff.mpr (eq_i res_at (Term.int_eval (1)) rfl), trivial⟩ ⟨hq.1, hq.2.1, (hq.2.2.sift fun y hy => Or.inr (N y hy)).mono (by decide) (by decide)⟩⟩
theorem main_1_1 : Claimed_1_1 := comes_1 fun _ _ _ _ _ _ h hF => ⟨h.1, hF⟩
theorem main_1_2 : Claimed_1_2 := comes_1 fun _ _ _ _ _ _ h hF => ⟨h.2.1, hF⟩
end Jvm.Pilot.@@N@@
namespace Jvm.Pilot.@@N@@
open Jvm Jvm.ClassFile Sem Op Lib Jvm.Free Jvm.Stand Jvm.Pilot.@@N@@.Jvm.D
/-! MADE BY PROGRAM (witnessworld.py) out of the Statement's table words and the real class files: 12 classes; the members and pool entries that the words name. The judged class is class 1, her method 1. -/
namespace start1
open Jvm.ClassFile
def u (s : String) : CpInfo := .utf8 (stringToUtf16 s)
/-- a pool by its gaps: so many unusable entries, then the entry; so many at the end -/
def gap : Nat → List CpInfo → List CpInfo
  | 0, r => r
  | n + 1, r => .unusable :: gap n r
def poolList (es : List (Nat × CpInfo)) (last : Nat) : List CpInfo := es.foldr (fun e r => gap e.1 (e.2 :: r)) (gap last [])
def pool (es : List (Nat × CpInfo)) (last : Nat) : Array CpInfo := ⟨poolList es last⟩
def fileOf (pool : Array CpInfo) (this : Nat) (attrs : Array Attribute := #[]) (ms : Array MethodInfo := #[]) (fl : Nat := 33) (sup : Nat := 0) (ifs : Array Nat := #[]) (fds : Array FieldInfo := #[]) : ClassFile where
  minorVersion := 0
  majorVersion := 65
  constantPool := pool
  accessFlags := fl
  thisClass := this
  superClass := sup
  interfaces := ifs
  fields := fds
  methods := ms
  attributes := attrs
def plain (name : String) (sup : Option ClassId) : Class where
  name := name
  kind := .ordinary
  loader := none
  accessFlags := 33
  super := sup
  interfaces := #[]
  cf := none
  fields := #[]
  methods := #[]
  instanceTypes := #[]
  staticTypes := #[]
  resolved := #[]
  callSites := []
  init := .initialized
  statics := none
  mirror := none

def pool0 : Array CpInfo := pool [(5, u "<init>"), (0, u "()V"), (1, .class_ 10), (1, u "java/lang/Object")] 113

def k0m0 : Method := { name := "<init>", desc := "()V", sig := { parameters := [], returnType := none }, accessFlags := 1, code := none }
/-- java/lang/Object -/
def k0 : Class := { plain "java/lang/Object" none with
  accessFlags := 33
  interfaces := #[]
  cf := some (fileOf pool0 8 #[] #[{ accessFlags := 1, nameIndex := 5, descriptorIndex := 6, attributes := #[] }] 33 0 #[] #[])
  fields := #[]
  methods := #[k0m0]
  instanceTypes := #[]
  staticTypes := #[]
  resolved := Array.replicate 124 none
  statics := none }

def pool1 : Array CpInfo := pool [(2, .class_ 4), (1, u "java/lang/Object"), (0, u "<init>"), (0, u "()V"), (0, .fieldref 8 9), (0, .class_ 10), (0, .nameAndType 11 12), (0, u "com/example/spikewright/spikewright/model/Expr$Operator"), (0, u "ADD"), (0, u "Lcom/example/spikewright/spikewright/model/Expr$Operator;"), (0, .methodref 8 14), (0, .nameAndType 15 16), (0, u "apply"), (0, u "(DD)D"), (0, .fieldref 8 18), (0, .nameAndType 19 12), (0, u "SUBTRACT"), (0, .fieldref 8 21), (0, .nameAndType 22 12), (0, u "MULTIPLY"), (0, .fieldref 8 24), (0, .nameAndType 25 12), (0, u "DIVIDE"), (0, .class_ 27), (0, u "com/example/spikewright/spikewright/model/OperatorApplyPinLaw"), (2, u "law"), (0, u "(III)Z")] 7

def k1m0 : Method := { name := "<init>", desc := "()V", sig := { parameters := [], returnType := none }, accessFlags := 1, code := none }
def k1c1 : Code := { maxStack := 6, maxLocals := 8, code := code, exceptionTable := #[], attributes := #[] }
def k1m1 : Method := { name := "law", desc := "(III)Z", sig := { parameters := [.int, .int, .int], returnType := some .boolean }, accessFlags := 9, code := some k1c1 }
/-- com/example/spikewright/spikewright/model/OperatorApplyPinLaw -/
def k1 : Class := { plain "com/example/spikewright/spikewright/model/OperatorApplyPinLaw" (some 0) with
  accessFlags := 49
  interfaces := #[]
  cf := some (fileOf pool1 26 #[] #[{ accessFlags := 1, nameIndex := 5, descriptorIndex := 6, attributes := #[] }, { accessFlags := 9, nameIndex := 30, descriptorIndex := 31, attributes := #[] }] 49 2 #[] #[])
  fields := #[]
  methods := #[k1m0, k1m1]
  instanceTypes := #[]
  staticTypes := #[]
  resolved := Array.replicate 39 none
  statics := none }

def pool2 : Array CpInfo := pool [(1, .class_ 2), (0, u "java/lang/constant/Constable"), (0, .class_ 4), (0, u "java/lang/Object")] 6

/-- java/lang/constant/Constable -/
def k2 : Class := { plain "java/lang/constant/Constable" (some 0) with
  accessFlags := 1537
  interfaces := #[]
  cf := some (fileOf pool2 1 #[] #[] 1537 3 #[] #[])
  fields := #[]
  methods := #[]
  instanceTypes := #[]
  staticTypes := #[]
  resolved := Array.replicate 11 none
  statics := none }

def pool3 : Array CpInfo := pool [(1, .class_ 2), (0, u "java/lang/Comparable"), (0, .class_ 4), (0, u "java/lang/Object")] 7

/-- java/lang/Comparable -/
def k3 : Class := { plain "java/lang/Comparable" (some 0) with
  accessFlags := 1537
  interfaces := #[]
  cf := some (fileOf pool3 1 #[] #[] 1537 3 #[] #[])
  fields := #[]
  methods := #[]
  instanceTypes := #[]
  staticTypes := #[]
  resolved := Array.replicate 12 none
  statics := none }

def pool4 : Array CpInfo := pool [(1, .class_ 2), (0, u "java/io/Serializable"), (0, .class_ 4), (0, u "java/lang/Object")] 2

/-- java/io/Serializable -/
def k4 : Class := { plain "java/io/Serializable" (some 0) with
  accessFlags := 1537
  interfaces := #[]
  cf := some (fileOf pool4 1 #[] #[] 1537 3 #[] #[])
  fields := #[]
  methods := #[]
  instanceTypes := #[]
  staticTypes := #[]
  resolved := Array.replicate 7 none
  statics := none }

def pool5 : Array CpInfo := pool [(2, .class_ 4), (1, u "java/lang/Enum"), (0, u "name"), (0, u "Ljava/lang/String;"), (0, .fieldref 2 8), (0, .nameAndType 9 10), (0, u "ordinal"), (0, u "I"), (1, .class_ 14), (1, u "java/lang/Object"), (4, u "hash"), (86, .class_ 108), (1, u "java/lang/Enum$EnumDesc"), (2, .class_ 112), (0, u "java/lang/constant/Constable"), (0, .class_ 114), (0, u "java/lang/Comparable"), (0, .class_ 116), (0, u "java/io/Serializable"), (9, u "()I")] 77

def k5c0 : Code := { maxStack := 1, maxLocals := 1, code := jdk_37_method_2_code, exceptionTable := #[], attributes := #[] }
def k5m0 : Method := { name := "ordinal", desc := "()I", sig := { parameters := [], returnType := some .int }, accessFlags := 17, code := some k5c0 }
/-- java/lang/Enum -/
def k5 : Class := { plain "java/lang/Enum" (some 0) with
  accessFlags := 1057
  interfaces := #[2, 3, 4]
  cf := some (fileOf pool5 2 #[.nestMembers #[106]] #[{ accessFlags := 17, nameIndex := 9, descriptorIndex := 126, attributes := #[] }] 1057 12 #[111, 113, 115] #[{ accessFlags := 18, nameIndex := 5, descriptorIndex := 6, attributes := #[] }, { accessFlags := 18, nameIndex := 9, descriptorIndex := 10, attributes := #[] }, { accessFlags := 2, nameIndex := 19, descriptorIndex := 10, attributes := #[] }])
  fields := #[{ name := "name", type := (.object "java/lang/String"), accessFlags := 18, slot := 0, constantValue := 0 }, { name := "ordinal", type := .int, accessFlags := 18, slot := 1, constantValue := 0 }, { name := "hash", type := .int, accessFlags := 2, slot := 2, constantValue := 0 }]
  methods := #[k5m0]
  instanceTypes := #[(.object "java/lang/String"), .int, .int]
  staticTypes := #[]
  resolved := Array.replicate 204 none
  statics := none }

def pool6 : Array CpInfo := pool [(1, .class_ 2), (0, u "com/example/spikewright/spikewright/model/Expr$Operator"), (2, u "ADD"), (0, u "Lcom/example/spikewright/spikewright/model/Expr$Operator;"), (2, u "SUBTRACT"), (2, u "MULTIPLY"), (2, u "DIVIDE"), (2, u "$VALUES"), (0, u "[Lcom/example/spikewright/spikewright/model/Expr$Operator;"), (6, .class_ 28), (1, u "java/lang/Enum"), (6, .methodref 1 36), (0, .nameAndType 37 38), (0, u "ordinal"), (0, u "()I"), (21, u "apply"), (0, u "(DD)D"), (6, .class_ 69), (0, u "com/example/spikewright/spikewright/model/Expr")] 2

def k6c0 : Code := { maxStack := 4, maxLocals := 5, code := prog_22_method_4_code, exceptionTable := #[], attributes := #[] }
def k6m0 : Method := { name := "apply", desc := "(DD)D", sig := { parameters := [.double, .double], returnType := some .double }, accessFlags := 1, code := some k6c0 }
/-- com/example/spikewright/spikewright/model/Expr$Operator -/
def k6 : Class := { plain "com/example/spikewright/spikewright/model/Expr$Operator" (some 5) with
  accessFlags := 16433
  interfaces := #[]
  cf := some (fileOf pool6 1 #[.nestHost 68] #[{ accessFlags := 1, nameIndex := 60, descriptorIndex := 61, attributes := #[] }] 16433 26 #[] #[{ accessFlags := 16409, nameIndex := 5, descriptorIndex := 6, attributes := #[] }, { accessFlags := 16409, nameIndex := 9, descriptorIndex := 6, attributes := #[] }, { accessFlags := 16409, nameIndex := 12, descriptorIndex := 6, attributes := #[] }, { accessFlags := 16409, nameIndex := 15, descriptorIndex := 6, attributes := #[] }, { accessFlags := 4122, nameIndex := 18, descriptorIndex := 19, attributes := #[] }])
  fields := #[{ name := "ADD", type := (.object "com/example/spikewright/spikewright/model/Expr$Operator"), accessFlags := 16409, slot := 0, constantValue := 0 }, { name := "SUBTRACT", type := (.object "com/example/spikewright/spikewright/model/Expr$Operator"), accessFlags := 16409, slot := 1, constantValue := 0 }, { name := "MULTIPLY", type := (.object "com/example/spikewright/spikewright/model/Expr$Operator"), accessFlags := 16409, slot := 2, constantValue := 0 }, { name := "DIVIDE", type := (.object "com/example/spikewright/spikewright/model/Expr$Operator"), accessFlags := 16409, slot := 3, constantValue := 0 }, { name := "$VALUES", type := (.array (.object "com/example/spikewright/spikewright/model/Expr$Operator")), accessFlags := 4122, slot := 4, constantValue := 0 }]
  methods := #[k6m0]
  instanceTypes := #[(.object "java/lang/String"), .int, .int]
  staticTypes := #[(.object "com/example/spikewright/spikewright/model/Expr$Operator"), (.object "com/example/spikewright/spikewright/model/Expr$Operator"), (.object "com/example/spikewright/spikewright/model/Expr$Operator"), (.object "com/example/spikewright/spikewright/model/Expr$Operator"), (.array (.object "com/example/spikewright/spikewright/model/Expr$Operator"))]
  resolved := Array.replicate 72 none
  statics := some 0 }

def pool7 : Array CpInfo := pool [(1, u "java/lang/Cloneable"), (0, .class_ 1), (0, u "java/lang/Object"), (0, .class_ 3)] 3

/-- java/lang/Cloneable -/
def k7 : Class := { plain "java/lang/Cloneable" (some 0) with
  accessFlags := 1537
  interfaces := #[]
  cf := some (fileOf pool7 2 #[] #[] 1537 4 #[] #[])
  fields := #[]
  methods := #[]
  instanceTypes := #[]
  staticTypes := #[]
  resolved := Array.replicate 8 none
  statics := none }

/-- the primitive byte -/
def k8 : Class := { plain "byte" none with kind := .primitive 'B', accessFlags := 0x411 }
/-- [B -/
def k9 : Class := { plain "[B" (some 0) with kind := .array 8 .byte, interfaces := #[7, 4], accessFlags := 1041 }

/-- the primitive int -/
def k10 : Class := { plain "int" none with kind := .primitive 'I', accessFlags := 0x411 }
/-- [I -/
def k11 : Class := { plain "[I" (some 0) with kind := .array 10 .int, interfaces := #[7, 4], accessFlags := 1041 }

def heap : Heap := #[{ cls := 6, slots := #[.ref 1, .ref 2, .ref 3, .ref 4, .null], vm := .statics 6 },
  { cls := 6, slots := #[.null, .int 0, .int 0], vm := .none },
  { cls := 6, slots := #[.null, .int 1, .int 0], vm := .none },
  { cls := 6, slots := #[.null, .int 2, .int 0], vm := .none },
  { cls := 6, slots := #[.null, .int 3, .int 0], vm := .none }]
def classes : Array Class := #[k0, k1, k2, k3, k4, k5, k6, k7, k8, k9, k10, k11]
def interned : List (Array UInt16 × Addr) := []
def slotsUsed : Nat := 17
def theMethod : MethodId := ⟨1, 1⟩
def args0 : Array Value := #[.int 3, .int 5, .int 7]
def aboutOver (below : List Frame) : State where
  vm := { classes := classes, interned := interned.toArray }
  heap := heap
  slotsUsed := slotsUsed
  threads := #[{ frames := .invoking theMethod args0 :: below }]
def below0 : List Frame := [.native { method := ⟨0, 0⟩, args := #[] }]
def about1 : State := aboutOver below0
def p0 : Program := .bare "" "" ""
def e0 : Env := launch0.env 0 0 0
theorem w_frames : about1.frames = Frame.invoking theMethod args0 :: below0 := rfl
set_option maxRecDepth 65536 in
theorem w_args : argsFit about1.vm theMethod args0 = true := by decide +kernel
set_option maxRecDepth 65536 in
theorem w_heap : heapFits about1 = true := by decide +kernel
set_option maxRecDepth 65536 in
theorem w_runnable : about1.curStatus? = some .runnable := by decide +kernel
set_option maxRecDepth 65536 in
theorem w_alone : about1.alone = true := by decide +kernel
set_option maxRecDepth 65536 in
theorem w_named : about1.methodNamed? x = some theMethod := by decide +kernel
set_option maxRecDepth 65536 in
theorem w_hears : about1.hears theMethod below0 = true := by decide +kernel
set_option maxRecDepth 65536 in
theorem w_ripe : about1.ripe theMethod args0 below0 = true := by decide +kernel
theorem w_running : about1.status = .running := rfl
set_option maxRecDepth 65536 in
theorem w_room : about1.hasRoom e0.platform room_1 = true :=
  launch0.hasRoom_least _ room_1 (by decide +kernel) (by decide +kernel) (by decide +kernel) (by decide +kernel) (by decide +kernel) (by decide +kernel)
theorem allAtoms_all (ts : List Jvm.Cond) (a : Array Jvm.Value) (st : Jvm.State) : (allAtoms ts).before a st = ts.all (fun c => c.before a st) := by
  induction ts with
  | nil => rfl
  | cons c t ih =>
    show (Jvm.Cond.and c (allAtoms t)).before a st = _
    rw [Jvm.Cond.before_and, ih, List.all_cons]
def words1 : List Jvm.Cond := Jvm.Cond.code x code maxLocals ret :: tables_1
/-- a 'code' word, met by the world's own term for the bytes: nothing is compared byte by byte -/
theorem code_word {y : MethodName} {bytes : ByteArray} {mx : Nat} {rt : Option FieldType} {a : Array Value} {s : State} {m : MethodId} {meth : Method} {c : Code} (h1 : s.methodNamed? y = some m) (h2 : s.vm.method? m = some meth) (h3 : meth.code = some c) (h4 : c.code = bytes)
    (h5 : (c.maxLocals == mx && c.exceptionTable.isEmpty && decide (c.maxStack ≤ mostOperands) && decide (meth.sig.returnType = rt) && !meth.locks && decide (parseMethodDescriptor y.desc = some meth.sig)) = true) : (Jvm.Cond.code y bytes mx rt).before a s = true := by
  simp only [Bool.and_eq_true, beq_iff_eq, Bool.not_eq_true', decide_eq_true_eq] at h5
  obtain ⟨⟨⟨⟨⟨g1, g2⟩, g3⟩, g4⟩, g5⟩, g6⟩ := h5
  simp [Cond.before, Cond.holds, Cond.value, h1, h2, h3, h4, g1, g2, g3, g4, g5, g6]
def isCode : Jvm.Cond → Bool
  | .code _ _ _ _ => true
  | _ => false
theorem all_split {L : List Jvm.Cond} {P : Jvm.Cond → Bool} (h1 : L.all (fun c => isCode c || P c) = true) (h2 : ∀ c ∈ L.filter isCode, P c = true) : L.all P = true := by
  refine List.all_eq_true.mpr fun c hc => ?_
  have h := List.all_eq_true.mp h1 c hc
  rcases Bool.eq_false_or_eq_true (isCode c) with hi | hi
  · exact h2 c (List.mem_filter.mpr ⟨hc, hi⟩)
  · simpa [hi] using h
set_option maxRecDepth 65536 in
theorem w_c0 : (Jvm.Cond.code x code maxLocals ret).before args0 about1 = true := code_word (m := ⟨1, 1⟩) (meth := k1m1) (c := k1c1) (by decide +kernel) rfl rfl rfl (by decide +kernel)
set_option maxRecDepth 65536 in
theorem w_c1 : (Jvm.Cond.code ({ cls := "com/example/spikewright/spikewright/model/Expr$Operator", name := "apply", desc := "(DD)D" } : Jvm.MethodName) prog_22_method_4_code (5 : Nat) (Option.some Jvm.ClassFile.FieldType.double)).before args0 about1 = true := code_word (m := ⟨6, 0⟩) (meth := k6m0) (c := k6c0) (by decide +kernel) rfl rfl rfl (by decide +kernel)
set_option maxRecDepth 65536 in
theorem w_c2 : (Jvm.Cond.code ({ cls := "java/lang/Enum", name := "ordinal", desc := "()I" } : Jvm.MethodName) jdk_37_method_2_code (1 : Nat) (Option.some Jvm.ClassFile.FieldType.int)).before args0 about1 = true := code_word (m := ⟨5, 0⟩) (meth := k5m0) (c := k5c0) (by decide +kernel) rfl rfl rfl (by decide +kernel)
def codes1 : List Jvm.Cond := [Jvm.Cond.code x code maxLocals ret, Jvm.Cond.code ({ cls := "com/example/spikewright/spikewright/model/Expr$Operator", name := "apply", desc := "(DD)D" } : Jvm.MethodName) prog_22_method_4_code (5 : Nat) (Option.some Jvm.ClassFile.FieldType.double), Jvm.Cond.code ({ cls := "java/lang/Enum", name := "ordinal", desc := "()I" } : Jvm.MethodName) jdk_37_method_2_code (1 : Nat) (Option.some Jvm.ClassFile.FieldType.int)]
set_option maxRecDepth 65536 in
theorem codes_eq : words1.filter isCode = codes1 := rfl
theorem w_codes : ∀ c ∈ words1.filter isCode, c.before args0 about1 = true := by
  rw [codes_eq]
  intro c hc
  simp only [codes1, List.mem_cons, List.not_mem_nil, or_false] at hc
  rcases hc with rfl | rfl | rfl
  · exact w_c0
  · exact w_c1
  · exact w_c2
set_option maxRecDepth 65536 in
theorem w_t1 : words1.all (fun c => isCode c || c.before args0 about1) = true := by decide +kernel
theorem w_tables : (allAtoms (Jvm.Cond.code x code maxLocals ret :: tables_1)).before args0 about1 = true := by
  rw [allAtoms_all]
  show words1.all (fun c => c.before args0 about1) = true
  refine all_split ?_ w_codes
  rw [w_t1]
set_option maxRecDepth 65536 in
theorem w_case : (Jvm.Cond.and given_1 narrow_1).before args0 about1 = true := by decide +kernel
theorem w_applies : (headSpec (Jvm.Cond.code x code maxLocals ret :: tables_1) room_1).applies x e0.platform about1 = true :=
  (Spec.applies_iff w_frames).mpr ⟨w_running, w_runnable, w_alone, w_named, w_hears, w_ripe, w_room, w_tables⟩
theorem atStart : AtStart classFile x code maxLocals ret World_1 tables_1 room_1 Calls_1 rest_1 Pre_1 launch0 p0 e0 about1 theMethod args0 below0 :=
  ⟨lists_1, trivial, launch0.admits_env _ _ _, launch0.least_env, fairChoices_fair.cas, fairChoices_fair.clock, w_frames, w_args, w_heap, w_applies, trivial, trivial, w_case⟩
end start1
theorem witness_1 : WitnessClaimed_1 := ⟨start1.p0, start1.e0, start1.about1, start1.theMethod, start1.args0, start1.below0, start1.atStart⟩
end Jvm.Pilot.@@N@@
