import JvmDerived
import JvmDerived.Pilot.@@N@@Statement
import JvmDerived.Pilot.@@N@@Code
set_option linter.unusedVariables false
set_option linter.unusedSimpArgs false
namespace Jvm.Pilot.@@N@@.Kw
open Jvm Jvm.ClassFile Sem Op Lib Jvm.Free Jvm.Stand Jvm.LawKit Jvm.RoadKit Bundle
/-! ## a walk by weakest preconditions over the road kit's family: the state, the tables and the intern table are hidden; what is seen is the heap, the own cells W, the room used, pc, locals, stack -/
abbrev Mth := MethodName × ByteArray × Nat × Option FieldType
def Cx (M : Mth) (p : Program) (meth : Method) (c : Code) : Prop := p.tables.exec = Jvm.exec ∧ c.code = M.2.1 ∧ c.maxLocals = M.2.2.1 ∧ meth.sig.returnType = M.2.2.2 ∧ meth.locks = false ∧ meth.name = M.1.name
def Own (Z : State) (EL : List (String × Nat)) (vm : Vm) (h : Heap) (W : List Addr) : Prop := ∀ a ∈ W, Z.heap.size ≤ a ∧ a < h.size ∧ Safe Z EL vm h a
def Hid (l : Launch) (Z : State) (EL : List (String × Nat)) (M : Mth) (R : Room) (p : Program) (e : Env) (s : State) (m : MethodId) (args : Array Value) (below : List Frame) (meth : Method) (c : Code) (T : State) (vm0 : Vm) (h : Heap) (W : List Addr) (k n : Nat) : Prop :=
  ∃ locs k0, Stand p l e R (s.setVm vm0) m args below meth c T locs k n ∧ T.heap = h ∧ s.Since vm0 k0 ∧ k0 ≤ h.size ∧ Z.Warmed39 vm0 ∧ vm0.findClass M.1.cls = some m.cls ∧ CHr Z EL s.vm s.heap vm0 h ∧ Fr Z.heap.size locs ∧ Own Z EL vm0 h W ∧ k ≤ R.cells ∧ n ≤ R.slots ∧ Ext Z.heap h ∧ (EL = [] → s.WarmedH vm0) ∧ ∃ a0, EW Z a0 EL
def Done (Z : State) (EL : List (String × Nat)) (R : Room) (p : Program) (e : Env) (s : State) (below : List Frame) (S : State) (Q : Option Value → Heap → List Addr → Prop) : Prop :=
  ∃ s₂ v L Wo, Steps p.tables e below S s₂ ∧ s₂.status = .running ∧ Ended s₂ below (.returned v) ∧ Q v s₂.heap Wo ∧ Own Z EL s₂.vm s₂.heap Wo ∧ Fr Z.heap.size L ∧ CHr Z EL s.vm s.heap s₂.vm s₂.heap ∧ Ext Z.heap s₂.heap ∧ (EL = [] → s.WarmedH s₂.vm) ∧ ReturnedEndW s (.returned v) s₂ L R.cells R.slots
def Wx (l : Launch) (Z : State) (EL : List (String × Nat)) (M : Mth) (R : Room) (h : Heap) (W : List Addr) (k n pc : Nat) (Ls : Array Slot) (st : List Value) (Q : Option Value → Heap → List Addr → Prop) : Prop :=
  ∀ p e s m args below meth c, Cx M p meth c → ∀ T vm0, Hid l Z EL M R p e s m args below meth c T vm0 h W k n → Done Z EL R p e s below (T.setTop (mkF m pc Ls st)) Q
abbrev Wp (l : Launch) (Z : State) (EL : List (String × Nat)) (M : Mth) (R : Room) (h : Heap) (W : List Addr) (k n pc : Nat) (Ls : Array Slot) (st : List Value) (Q : Option Value → Heap → Prop) : Prop := Wx l Z EL M R h W k n pc Ls st (fun v h' _ => Q v h')
def CxW (ws : List Jvm.Cond) (l : Launch) (Z : State) (EL : List (String × Nat)) (M : Mth) (rm : Room) (as : Array Value) (h : Heap) (W : List Addr) (Q : Option Value → Heap → List Addr → Prop) : Prop :=
  MetFree l M.1 (head1 (Jvm.Cond.code M.1 M.2.1 M.2.2.1 M.2.2.2 :: ws) rm) (fun a U => a = as ∧ Z.Warmed39 U.vm ∧ U.heap = h ∧ CHv Z EL U.vm h ∧ Own Z EL U.vm h W ∧ Ext Z.heap h) (fun _ _ _ _ _ => True)
    (fun _ U o U' => ∃ v L Wo, o = .returned v ∧ Q v U'.heap Wo ∧ Own Z EL U'.vm U'.heap Wo ∧ Fr Z.heap.size L ∧ CHr Z EL U.vm U.heap U'.vm U'.heap ∧ Ext Z.heap U'.heap ∧ (EL = [] → U.WarmedH U'.vm) ∧ ReturnedEndW U o U' L rm.cells rm.slots)
abbrev CtW (ws : List Jvm.Cond) (l : Launch) (Z : State) (EL : List (String × Nat)) (M : Mth) (rm : Room) (as : Array Value) (h : Heap) (W : List Addr) (Q : Option Value → Heap → Prop) : Prop := CxW ws l Z EL M rm as h W (fun v h' _ => Q v h')
abbrev Ct := CtW []
abbrev Ct3 := CxW []
theorem Done.pre {Z : State} {EL : List (String × Nat)} {R : Room} {p : Program} {e : Env} {s : State} {below : List Frame} {S S' : State} {Q : Option Value → Heap → List Addr → Prop} (st : ∀ t, Steps p.tables e below S' t → Steps p.tables e below S t) (D : Done Z EL R p e s below S' Q) : Done Z EL R p e s below S Q := by
  obtain ⟨s₂, v, L, Wo, h1, r⟩ := D
  exact ⟨s₂, v, L, Wo, st _ h1, r⟩
section Steps
variable {l : Launch} {Z : State} {EL : List (String × Nat)} {M : Mth} {R : Room} {h : Heap} {W : List Addr} {k n pc : Nat} {Ls : Array Slot} {st : List Value} {Q : Option Value → Heap → List Addr → Prop} {a0 : Array Value}
/-! ### entering -/
theorem Own.nil {vm : Vm} : Own Z EL vm h [] := fun _ q => nomatch q
theorem Ct.of_wp {ws : List Jvm.Cond} {rm : Room} {as : Array Value} (hp : plainFor M.1 = true) (hEL : EW Z a0 EL) (hls : Jvm.Sym.laidSlots as.toList ++ List.replicate (M.2.2.1 - (Jvm.Sym.laidSlots as.toList).length) .unset = Ls.toList) (K : Wx l Z EL M rm h W 0 0 0 Ls [] Q) : CxW ws l Z EL M rm as h W Q := by
  refine MetFree.of_bodySF hp hisR ?_
  intro p e s m args below meth c s₁ Bd hml0 hP hK
  obtain ⟨rfl, hZ, hh, hC, hO, hX⟩ := hP
  have X0 : Stand p l e rm s m args below meth c s₁ [] 0 0 := Stand.of_body Bd
  have e0 : s₁.heap = h := by rw [← hh, Bd.state]; rfl
  obtain ⟨s₂, v, L, Wo, h1, h2, h3, h4, h5, h6, h7, h8⟩ := K p e s m args below meth c ⟨Bd.exec, Bd.bytes, hml0, Bd.returns, Bd.notSynchronized, (name_of_methodNamed Bd.named Bd.method).1⟩ s₁ s.vm
    ⟨[], 0, X0, e0, (State.WarmedH.refl s).since _, Nat.zero_le _, hZ, findClass_of_methodNamed Bd.named, by rw [hh]; exact CHr.refl hC, Fr.nil _, hO, Nat.zero_le _, Nat.zero_le _, hX, fun _ => State.WarmedH.refl s, a0, hEL⟩
  exact ⟨s₂, _, (Jvm.Free.XT.entry hls).trans h1, h2, h3, v, L, Wo, rfl, h4, h5, h6, h7, h8⟩
/-! ### plain steps -/
theorem Wp.pure {pc' : Nat} {Ls' : Array Slot} {st' : List Value} (hs : ∀ {tb : Tables} [Ours tb] {e : Env} {below : List Frame} {T : State} {m : MethodId} {c : Code} {target : State}, At T m c below → tb.exec = Jvm.exec → c.code = M.2.1 → Steps tb e below (T.setTop (mkF m pc' Ls' st')) target → Steps tb e below (T.setTop (mkF m pc Ls st)) target)
    (K : Wx l Z EL M R h W k n pc' Ls' st' Q) : Wx l Z EL M R h W k n pc Ls st Q := by
  intro p e s m args below meth c hc T vm0 H
  obtain ⟨locs, k0, X, r⟩ := id H
  exact (K p e s m args below meth c hc T vm0 H).pre fun t q => hs X.here hc.1 hc.2.1 q
def ush (x y : Int32) : Int32 := (x.toUInt32 >>> (y &&& 31).toUInt32).toInt32
def c16 (x : Int32) : Int32 := x.toUInt32.toUInt16.toUInt32.toInt32
def lo8 (x : Int32) : Int32 := x.toInt8.toInt32
def nx (len need pc : Nat) (Ls : Array Slot) (st : List Value) : Option (Nat × Array Slot × List Value) := if len = need then some (pc + need, Ls, st) else none
def ld1 (Ls : Array Slot) (i : Nat) : Option Value := match Ls[i]? with | some (.val v) => some v | _ => none
def isI : Value → Bool | .int _ => true | _ => false
def isL : Value → Bool | .long _ => true | _ => false
def ldv (P : Value → Bool) (need len pc : Nat) (Ls : Array Slot) (st : List Value) (i : Nat) : Option (Nat × Array Slot × List Value) := match ld1 Ls i with | some v => if P v = true then nx len need pc Ls (v :: st) else none | none => none
def stv (P : Value → Bool) (need len pc : Nat) (Ls : Array Slot) (st : List Value) (i : Nat) : Option (Nat × Array Slot × List Value) := match st with | v :: r => (if P v = true then (match storeLocals Ls i v with | some l' => nx len need pc l' r | none => none) else none) | [] => none
def i2 (f : Int32 → Int32 → Int32) (len pc : Nat) (Ls : Array Slot) (st : List Value) : Option (Nat × Array Slot × List Value) := match st with | .int y :: .int x :: r => nx len 1 pc Ls (.int (f x y) :: r) | _ => none
def l2 (f : Int64 → Int64 → Int64) (len pc : Nat) (Ls : Array Slot) (st : List Value) : Option (Nat × Array Slot × List Value) := match st with | .long y :: .long x :: r => nx len 1 pc Ls (.long (f x y) :: r) | _ => none
def li2 (f : Int64 → Int32 → Int64) (len pc : Nat) (Ls : Array Slot) (st : List Value) : Option (Nat × Array Slot × List Value) := match st with | .int y :: .long x :: r => nx len 1 pc Ls (.long (f x y) :: r) | _ => none
def i1 (f : Int32 → Value) (len pc : Nat) (Ls : Array Slot) (st : List Value) : Option (Nat × Array Slot × List Value) := match st with | .int x :: r => nx len 1 pc Ls (f x :: r) | _ => none
def l1 (f : Int64 → Value) (len pc : Nat) (Ls : Array Slot) (st : List Value) : Option (Nat × Array Slot × List Value) := match st with | .long x :: r => nx len 1 pc Ls (f x :: r) | _ => none
def stepS (i : Instr) (len pc : Nat) (Ls : Array Slot) (st : List Value) : Option (Nat × Array Slot × List Value) :=
  match i with
  | .aload_n k => ldv Value.isRef 1 len pc Ls st k.val
  | .aload k => ldv Value.isRef 2 len pc Ls st k
  | .iload_n k => ldv isI 1 len pc Ls st k.val
  | .iload k => ldv isI 2 len pc Ls st k
  | .lload_n k => ldv isL 1 len pc Ls st k.val
  | .lload k => ldv isL 2 len pc Ls st k
  | .astore_n k => stv Value.isRef 1 len pc Ls st k.val
  | .astore k => stv Value.isRef 2 len pc Ls st k
  | .istore_n k => stv isI 1 len pc Ls st k.val
  | .istore k => stv isI 2 len pc Ls st k
  | .lstore_n k => stv isL 1 len pc Ls st k.val
  | .lstore k => stv isL 2 len pc Ls st k
  | .iconst i => nx len 1 pc Ls (.int (Int32.ofInt i) :: st)
  | .lconst k => nx len 1 pc Ls (.long (Int64.ofNat k) :: st)
  | .bipush i => nx len 2 pc Ls (.int (Int8.ofInt i).toInt32 :: st)
  | .sipush i => nx len 3 pc Ls (.int (Int16.ofInt i).toInt32 :: st)
  | .aconst_null => nx len 1 pc Ls (.null :: st)
  | .iadd => i2 (· + ·) len pc Ls st
  | .isub => i2 (· - ·) len pc Ls st
  | .imul => i2 (· * ·) len pc Ls st
  | .iand => i2 (· &&& ·) len pc Ls st
  | .ior => i2 (· ||| ·) len pc Ls st
  | .ixor => i2 (· ^^^ ·) len pc Ls st
  | .ishl => i2 (fun x y => x <<< (y &&& 31)) len pc Ls st
  | .ishr => i2 (fun x y => x >>> (y &&& 31)) len pc Ls st
  | .iushr => i2 ush len pc Ls st
  | .ladd => l2 (· + ·) len pc Ls st
  | .lsub => l2 (· - ·) len pc Ls st
  | .lmul => l2 (· * ·) len pc Ls st
  | .land => l2 (· &&& ·) len pc Ls st
  | .lor => l2 (· ||| ·) len pc Ls st
  | .lshl => li2 (fun x y => x <<< (y.toInt64 &&& 63)) len pc Ls st
  | .lushr => li2 (fun x y => Jvm.Free.XT.ushrL x y) len pc Ls st
  | .lcmp => (match st with | .long y :: .long x :: r => nx len 1 pc Ls (.int (Jvm.Free.XT.cmpL x y) :: r) | _ => none)
  | .ineg => i1 (fun x => .int (-x)) len pc Ls st
  | .lneg => l1 (fun x => .long (-x)) len pc Ls st
  | .i2l => i1 (fun x => .long x.toInt64) len pc Ls st
  | .l2i => l1 (fun x => .int x.toInt32) len pc Ls st
  | .i2b => i1 (fun x => .int (lo8 x)) len pc Ls st
  | .i2c => i1 (fun x => .int (c16 x)) len pc Ls st
  | .i2s => i1 (fun x => .int x.toInt16.toInt32) len pc Ls st
  | .dup => (match st with | x :: r => (if x.category = 1 then nx len 1 pc Ls (x :: x :: r) else none) | _ => none)
  | .dup_x1 => (match st with | x :: y :: r => (if x.category = 1 ∧ y.category = 1 then nx len 1 pc Ls (x :: y :: x :: r) else none) | _ => none)
  | .dup2 => (match st with | x :: y :: r => (if x.category = 1 ∧ y.category = 1 then nx len 1 pc Ls (x :: y :: x :: y :: r) else none) | _ => none)
  | .pop => (match st with | x :: r => (if x.category = 1 then nx len 1 pc Ls r else none) | _ => none)
  | .iinc k cst => (match ld1 Ls k with | some (.int x) => (match storeLocals Ls k (.int (x + Int32.ofInt cst)) with | some l' => nx len 3 pc l' st | none => none) | _ => none)
  | .goto o => (if len = 3 ∧ 0 ≤ (pc : Int) + o then some (((pc : Int) + o).toNat, Ls, st) else none)
  | _ => none
theorem nx_inv {len need pc pc' : Nat} {Ls Ls' : Array Slot} {st st' : List Value} (h : nx len need pc Ls st = some (pc', Ls', st')) : len = need ∧ pc + need = pc' ∧ Ls = Ls' ∧ st = st' := by
  unfold nx at h; split at h
  · rename_i q; simp only [Option.some.injEq, Prod.mk.injEq] at h; exact ⟨q, h.1, h.2.1, h.2.2⟩
  · cases h
theorem ld1_inv {Ls : Array Slot} {i : Nat} {v : Value} (h : ld1 Ls i = some v) : Ls[i]? = some (.val v) := by
  unfold ld1 at h; split at h
  · rename_i q; cases h; exact q
  · cases h
theorem ldv_inv {P : Value → Bool} {need len pc pc' i : Nat} {Ls Ls' : Array Slot} {st st' : List Value} (h : ldv P need len pc Ls st i = some (pc', Ls', st')) : ∃ v, Ls[i]? = some (.val v) ∧ P v = true ∧ len = need ∧ pc + need = pc' ∧ Ls = Ls' ∧ v :: st = st' := by
  unfold ldv at h; split at h
  · rename_i v q; split at h
    · rename_i hp; exact ⟨v, ld1_inv q, hp, nx_inv h⟩
    · cases h
  · cases h
theorem stv_inv {P : Value → Bool} {need len pc pc' i : Nat} {Ls Ls' : Array Slot} {st st' : List Value} (h : stv P need len pc Ls st i = some (pc', Ls', st')) : ∃ v, st = v :: st' ∧ P v = true ∧ storeLocals Ls i v = some Ls' ∧ len = need ∧ pc + need = pc' := by
  unfold stv at h; split at h
  · split at h
    · rename_i hp; split at h
      · rename_i q; obtain ⟨a, b, rfl, rfl⟩ := nx_inv h; exact ⟨_, rfl, hp, q, a, b⟩
      · cases h
    · cases h
  · cases h
theorem i2_inv {f : Int32 → Int32 → Int32} {len pc pc' : Nat} {Ls Ls' : Array Slot} {st st' : List Value} (h : i2 f len pc Ls st = some (pc', Ls', st')) : ∃ x y r, st = .int y :: .int x :: r ∧ len = 1 ∧ pc + 1 = pc' ∧ Ls = Ls' ∧ .int (f x y) :: r = st' := by
  unfold i2 at h; split at h
  · exact ⟨_, _, _, rfl, nx_inv h⟩
  · cases h
theorem l2_inv {f : Int64 → Int64 → Int64} {len pc pc' : Nat} {Ls Ls' : Array Slot} {st st' : List Value} (h : l2 f len pc Ls st = some (pc', Ls', st')) : ∃ x y r, st = .long y :: .long x :: r ∧ len = 1 ∧ pc + 1 = pc' ∧ Ls = Ls' ∧ .long (f x y) :: r = st' := by
  unfold l2 at h; split at h
  · exact ⟨_, _, _, rfl, nx_inv h⟩
  · cases h
theorem li2_inv {f : Int64 → Int32 → Int64} {len pc pc' : Nat} {Ls Ls' : Array Slot} {st st' : List Value} (h : li2 f len pc Ls st = some (pc', Ls', st')) : ∃ x y r, st = .int y :: .long x :: r ∧ len = 1 ∧ pc + 1 = pc' ∧ Ls = Ls' ∧ .long (f x y) :: r = st' := by
  unfold li2 at h; split at h
  · exact ⟨_, _, _, rfl, nx_inv h⟩
  · cases h
theorem i1_inv {f : Int32 → Value} {len pc pc' : Nat} {Ls Ls' : Array Slot} {st st' : List Value} (h : i1 f len pc Ls st = some (pc', Ls', st')) : ∃ x r, st = .int x :: r ∧ len = 1 ∧ pc + 1 = pc' ∧ Ls = Ls' ∧ f x :: r = st' := by
  unfold i1 at h; split at h
  · exact ⟨_, _, rfl, nx_inv h⟩
  · cases h
theorem l1_inv {f : Int64 → Value} {len pc pc' : Nat} {Ls Ls' : Array Slot} {st st' : List Value} (h : l1 f len pc Ls st = some (pc', Ls', st')) : ∃ x r, st = .long x :: r ∧ len = 1 ∧ pc + 1 = pc' ∧ Ls = Ls' ∧ f x :: r = st' := by
  unfold l1 at h; split at h
  · exact ⟨_, _, rfl, nx_inv h⟩
  · cases h
theorem isI_inv {v : Value} (h : isI v = true) : ∃ x, v = .int x := by cases v <;> simp [isI] at h ⊢
theorem isL_inv {v : Value} (h : isL v = true) : ∃ x, v = .long x := by cases v <;> simp [isL] at h ⊢
theorem step_sound {tb : Tables} [Ours tb] {e : Env} {below : List Frame} {T : State} {m : MethodId} {c : Code} {target : State} (hA : At T m c below) (hx : tb.exec = Jvm.exec) {i : Instr} {len pc pc' : Nat} {Ls Ls' : Array Slot} {st st' : List Value} (hd : decode c.code pc = .ok (i, len)) (hs : stepS i len pc Ls st = some (pc', Ls', st'))
    (hr : Steps tb e below (T.setTop (mkF m pc' Ls' st')) target) : Steps tb e below (T.setTop (mkF m pc Ls st)) target := by
  cases i
  case aload_n k => obtain ⟨v, h1, h2, rfl, rfl, rfl, rfl⟩ := ldv_inv hs; exact XS.aloadN hA hx rfl hd h1 h2 hr
  case aload k => obtain ⟨v, h1, h2, rfl, rfl, rfl, rfl⟩ := ldv_inv hs; exact XS.aload hA hx rfl hd h1 h2 hr
  case iload_n k => obtain ⟨v, h1, h2, rfl, rfl, rfl, rfl⟩ := ldv_inv hs; obtain ⟨x, rfl⟩ := isI_inv h2; exact XS.iloadN hA hx rfl hd h1 hr
  case iload k => obtain ⟨v, h1, h2, rfl, rfl, rfl, rfl⟩ := ldv_inv hs; obtain ⟨x, rfl⟩ := isI_inv h2; exact XS.iload hA hx rfl hd h1 hr
  case lload_n k => obtain ⟨v, h1, h2, rfl, rfl, rfl, rfl⟩ := ldv_inv hs; obtain ⟨x, rfl⟩ := isL_inv h2; exact XT.lloadN hA hx rfl hd h1 hr
  case lload k => obtain ⟨v, h1, h2, rfl, rfl, rfl, rfl⟩ := ldv_inv hs; obtain ⟨x, rfl⟩ := isL_inv h2; exact XT.lload hA hx rfl hd h1 hr
  case astore_n k => obtain ⟨v, rfl, h2, h3, rfl, rfl⟩ := stv_inv hs; exact XS.astoreN hA hx rfl hd rfl h2 h3 hr
  case astore k => obtain ⟨v, rfl, h2, h3, rfl, rfl⟩ := stv_inv hs; exact XS.astore hA hx rfl hd rfl h2 h3 hr
  case istore_n k => obtain ⟨v, rfl, h2, h3, rfl, rfl⟩ := stv_inv hs; obtain ⟨x, rfl⟩ := isI_inv h2; exact XS.istoreN hA hx rfl hd rfl h3 hr
  case istore k => obtain ⟨v, rfl, h2, h3, rfl, rfl⟩ := stv_inv hs; obtain ⟨x, rfl⟩ := isI_inv h2; exact XS.istore hA hx rfl hd rfl h3 hr
  case lstore_n k => obtain ⟨v, rfl, h2, h3, rfl, rfl⟩ := stv_inv hs; obtain ⟨x, rfl⟩ := isL_inv h2; exact XT.lstoreN hA hx rfl hd rfl h3 hr
  case lstore k => obtain ⟨v, rfl, h2, h3, rfl, rfl⟩ := stv_inv hs; obtain ⟨x, rfl⟩ := isL_inv h2; exact XT.lstore hA hx rfl hd rfl h3 hr
  case iconst i => obtain ⟨rfl, rfl, rfl, rfl⟩ := nx_inv hs; exact XS.iconst hA hx rfl hd hr
  case lconst i => obtain ⟨rfl, rfl, rfl, rfl⟩ := nx_inv hs; exact XT.lconst hA hx rfl hd hr
  case bipush i => obtain ⟨rfl, rfl, rfl, rfl⟩ := nx_inv hs; exact XS.bipush hA hx rfl hd hr
  case sipush i => obtain ⟨rfl, rfl, rfl, rfl⟩ := nx_inv hs; exact XS.sipush hA hx rfl hd hr
  case aconst_null => obtain ⟨rfl, rfl, rfl, rfl⟩ := nx_inv hs; exact XS.aconstNull hA hx rfl hd hr
  case iadd => obtain ⟨x, y, r, rfl, rfl, rfl, rfl, rfl⟩ := i2_inv hs; exact XS.iadd hA hx rfl hd rfl hr
  case isub => obtain ⟨x, y, r, rfl, rfl, rfl, rfl, rfl⟩ := i2_inv hs; exact XS.isub hA hx rfl hd rfl hr
  case imul => obtain ⟨x, y, r, rfl, rfl, rfl, rfl, rfl⟩ := i2_inv hs; exact XS.imul hA hx rfl hd rfl hr
  case iand => obtain ⟨x, y, r, rfl, rfl, rfl, rfl, rfl⟩ := i2_inv hs; exact XS.iand hA hx rfl hd rfl hr
  case ior => obtain ⟨x, y, r, rfl, rfl, rfl, rfl, rfl⟩ := i2_inv hs; exact XT.ior hA hx rfl hd rfl hr
  case ixor => obtain ⟨x, y, r, rfl, rfl, rfl, rfl, rfl⟩ := i2_inv hs; exact XT.ixor hA hx rfl hd rfl hr
  case ishl => obtain ⟨x, y, r, rfl, rfl, rfl, rfl, rfl⟩ := i2_inv hs; exact XT.ishl hA hx rfl hd rfl hr
  case ishr => obtain ⟨x, y, r, rfl, rfl, rfl, rfl, rfl⟩ := i2_inv hs; exact XT.ishr hA hx rfl hd rfl hr
  case iushr => obtain ⟨x, y, r, rfl, rfl, rfl, rfl, rfl⟩ := i2_inv hs; exact XT.iushr hA hx rfl hd rfl hr
  case ladd => obtain ⟨x, y, r, rfl, rfl, rfl, rfl, rfl⟩ := l2_inv hs; exact XT.ladd hA hx rfl hd rfl hr
  case lsub => obtain ⟨x, y, r, rfl, rfl, rfl, rfl, rfl⟩ := l2_inv hs; exact XT.lsub hA hx rfl hd rfl hr
  case lmul => obtain ⟨x, y, r, rfl, rfl, rfl, rfl, rfl⟩ := l2_inv hs; exact XT.lmul hA hx rfl hd rfl hr
  case land => obtain ⟨x, y, r, rfl, rfl, rfl, rfl, rfl⟩ := l2_inv hs; exact XT.land hA hx rfl hd rfl hr
  case lor => obtain ⟨x, y, r, rfl, rfl, rfl, rfl, rfl⟩ := l2_inv hs; exact XT.lor hA hx rfl hd rfl hr
  case lshl => obtain ⟨x, y, r, rfl, rfl, rfl, rfl, rfl⟩ := li2_inv hs; exact XT.lshl hA hx rfl hd rfl hr
  case lushr => obtain ⟨x, y, r, rfl, rfl, rfl, rfl, rfl⟩ := li2_inv hs; exact XT.lushr hA hx rfl hd rfl hr
  case lcmp =>
    simp only [stepS] at hs; split at hs
    · obtain ⟨rfl, rfl, rfl, rfl⟩ := nx_inv hs; exact XT.lcmp hA hx rfl hd rfl hr
    · cases hs
  case ineg => obtain ⟨x, r, rfl, rfl, rfl, rfl, rfl⟩ := i1_inv hs; exact XS.ineg hA hx rfl hd rfl hr
  case lneg => obtain ⟨x, r, rfl, rfl, rfl, rfl, rfl⟩ := l1_inv hs; exact XT.lneg hA hx rfl hd rfl hr
  case i2l => obtain ⟨x, r, rfl, rfl, rfl, rfl, rfl⟩ := i1_inv hs; exact XT.i2l hA hx rfl hd rfl hr
  case l2i => obtain ⟨x, r, rfl, rfl, rfl, rfl, rfl⟩ := l1_inv hs; exact XT.l2i hA hx rfl hd rfl hr
  case i2b => obtain ⟨x, r, rfl, rfl, rfl, rfl, rfl⟩ := i1_inv hs; exact XT.i2b hA hx rfl hd rfl hr
  case i2c => obtain ⟨x, r, rfl, rfl, rfl, rfl, rfl⟩ := i1_inv hs; exact XT.i2c hA hx rfl hd rfl hr
  case i2s => obtain ⟨x, r, rfl, rfl, rfl, rfl, rfl⟩ := i1_inv hs; exact XT.i2s hA hx rfl hd rfl hr
  case dup =>
    simp only [stepS] at hs; split at hs
    · split at hs
      · rename_i q; obtain ⟨rfl, rfl, rfl, rfl⟩ := nx_inv hs; exact XS.dup hA hx rfl hd rfl q hr
      · cases hs
    · cases hs
  case dup_x1 =>
    simp only [stepS] at hs; split at hs
    · split at hs
      · rename_i q; obtain ⟨rfl, rfl, rfl, rfl⟩ := nx_inv hs; exact XT.dupX1 hA hx rfl hd rfl q.1 q.2 hr
      · cases hs
    · cases hs
  case dup2 =>
    simp only [stepS] at hs; split at hs
    · split at hs
      · rename_i q; obtain ⟨rfl, rfl, rfl, rfl⟩ := nx_inv hs; exact XT.dup2 hA hx rfl hd rfl q.1 q.2 hr
      · cases hs
    · cases hs
  case pop =>
    simp only [stepS] at hs; split at hs
    · split at hs
      · rename_i q; obtain ⟨rfl, rfl, rfl, rfl⟩ := nx_inv hs; exact XT.pop hA hx rfl hd rfl q hr
      · cases hs
    · cases hs
  case iinc k cst =>
    simp only [stepS] at hs; split at hs
    · rename_i q; split at hs
      · rename_i q2; obtain ⟨rfl, rfl, rfl, rfl⟩ := nx_inv hs; exact XS.iinc hA hx rfl hd (ld1_inv q) q2 hr
      · cases hs
    · cases hs
  case goto o =>
    simp only [stepS] at hs; split at hs
    · rename_i q; simp only [Option.some.injEq, Prod.mk.injEq] at hs; obtain ⟨rfl, rfl, rfl⟩ := hs; obtain ⟨rfl, q⟩ := q; exact XS.goto hA hx rfl (pc0 := pc) rfl hd q rfl hr
    · cases hs
  all_goals (exfalso; simp [stepS] at hs)
/-- the instructions of a body, told once -/
abbrev Tab := List (Nat × Instr × Nat)
def TabOk (code : ByteArray) (tb : Tab) : Prop := ∀ x ∈ tb, decode code x.1 = .ok x.2
def fnd (tb : Tab) (pc : Nat) : Option (Instr × Nat) := match tb with | [] => none | x :: r => if x.1 = pc then some x.2 else fnd r pc
theorem fnd_ok {code : ByteArray} : ∀ {tb : Tab}, TabOk code tb → ∀ {pc : Nat} {x : Instr × Nat}, fnd tb pc = some x → decode code pc = .ok x
  | [], _, _, _, h => by cases h
  | y :: r, ok, pc, x, h => by
    unfold fnd at h; split at h
    · rename_i q; cases h; rw [← q]; exact ok y (List.mem_cons_self ..)
    · exact fnd_ok (fun z hz => ok z (List.mem_cons_of_mem _ hz)) h
def runS (tb : Tab) : Nat → Nat → Array Slot → List Value → Option (Nat × Array Slot × List Value)
  | 0, pc, Ls, st => some (pc, Ls, st)
  | f + 1, pc, Ls, st => match fnd tb pc with
    | some (i, len) => (match stepS i len pc Ls st with | some (pc', Ls', st') => runS tb f pc' Ls' st' | none => none)
    | none => none
theorem run_sound {tbl : Tab} {tb : Tables} [Ours tb] {e : Env} {below : List Frame} {T : State} {m : MethodId} {c : Code} {target : State} (ok : TabOk c.code tbl) (hA : At T m c below) (hx : tb.exec = Jvm.exec) : ∀ (f : Nat) {pc pc' : Nat} {Ls Ls' : Array Slot} {st st' : List Value}, runS tbl f pc Ls st = some (pc', Ls', st') →
    Steps tb e below (T.setTop (mkF m pc' Ls' st')) target → Steps tb e below (T.setTop (mkF m pc Ls st)) target
  | 0, pc, pc', Ls, Ls', st, st', h, hr => by
    simp only [runS, Option.some.injEq, Prod.mk.injEq] at h; obtain ⟨rfl, rfl, rfl⟩ := h; exact hr
  | f + 1, pc, pc', Ls, Ls', st, st', h, hr => by
    unfold runS at h; split at h
    · rename_i i len q; split at h
      · rename_i q2; exact step_sound hA hx (fnd_ok ok q) q2 (run_sound ok hA hx f h hr)
      · cases h
    · cases h
theorem Wp.run {tb : Tab} (ok : TabOk M.2.1 tb) (f : Nat) (pc' : Nat) (Ls' : Array Slot) (st' : List Value) (hs : runS tb f pc Ls st = some (pc', Ls', st')) (K : Wx l Z EL M R h W k n pc' Ls' st' Q) : Wx l Z EL M R h W k n pc Ls st Q :=
  Wp.pure (fun hA hx hb hr => run_sound (by rw [hb]; exact ok) hA hx f hs hr) K
theorem Wp.at (Ls' : Array Slot) (st' : List Value) (q : Ls = Ls' ∧ st = st') (K : Wx l Z EL M R h W k n pc Ls' st' Q) : Wx l Z EL M R h W k n pc Ls st Q := by
  obtain ⟨rfl, rfl⟩ := q; exact K
/-- a slot that a value of one word may be stored over -/
def Sl1 (o : Slot) : Prop := o = .unset ∨ ∃ w, o = .val w ∧ w.category = 1
theorem Sl1.unset : Sl1 .unset := Or.inl rfl
theorem Sl1.int (x : Int32) : Sl1 (.val (.int x)) := Or.inr ⟨_, rfl, rfl⟩
theorem Sl1.ref (x : Addr) : Sl1 (.val (.ref x)) := Or.inr ⟨_, rfl, rfl⟩
theorem Wp.istoreS {tb : Tab} (ok : TabOk M.2.1 tb) {i : Nat} {x : Int32} {rest : List Value} {o : Slot} (ho : Sl1 o) (hf : fnd tb pc = some (.istore i, 2)) (hst : st = .int x :: rest) (hold : Ls[i]? = some o) (K : Wx l Z EL M R h W k n (pc + 2) (Ls.setIfInBounds i (.val (.int x))) rest Q) : Wx l Z EL M R h W k n pc Ls st Q := by
  subst hst
  exact Wp.pure (fun hA hx hb hr => XS.istoreS hA hx rfl (by rw [hb]; exact fnd_ok ok hf) rfl hold ho hr) K
theorem Wp.istoreNS {tb : Tab} (ok : TabOk M.2.1 tb) {i : Fin 4} {x : Int32} {rest : List Value} {o : Slot} (ho : Sl1 o) (hf : fnd tb pc = some (.istore_n i, 1)) (hst : st = .int x :: rest) (hold : Ls[i.val]? = some o) (K : Wx l Z EL M R h W k n (pc + 1) (Ls.setIfInBounds i.val (.val (.int x))) rest Q) : Wx l Z EL M R h W k n pc Ls st Q := by
  subst hst
  exact Wp.pure (fun hA hx hb hr => XS.istoreNS hA hx rfl (by rw [hb]; exact fnd_ok ok hf) rfl hold ho hr) K
theorem Wp.astoreS {tb : Tab} (ok : TabOk M.2.1 tb) {i : Nat} {x : Addr} {rest : List Value} {o : Slot} (ho : Sl1 o) (hf : fnd tb pc = some (.astore i, 2)) (hst : st = .ref x :: rest) (hold : Ls[i]? = some o) (K : Wx l Z EL M R h W k n (pc + 2) (Ls.setIfInBounds i (.val (.ref x))) rest Q) : Wx l Z EL M R h W k n pc Ls st Q := by
  subst hst
  exact Wp.pure (fun hA hx hb hr => XS.astoreS hA hx rfl (by rw [hb]; exact fnd_ok ok hf) rfl rfl rfl hold ho hr) K
end Steps
end Jvm.Pilot.@@N@@.Kw
namespace Jvm.Pilot.@@N@@.Kw
open Jvm Jvm.ClassFile Sem Op Lib Jvm.Free Jvm.Stand Jvm.LawKit Jvm.RoadKit Bundle
section Rules
variable {l : Launch} {Z : State} {EL : List (String × Nat)} {M : Mth} {R : Room} {h : Heap} {W : List Addr} {k n pc : Nat} {Ls : Array Slot} {st : List Value} {Q : Option Value → Heap → List Addr → Prop} {a0 : Array Value} {tb : Tab}
theorem ext_trans {h1 h2 h3 : Heap} (E : Ext h1 h2) (F : Ext h2 h3) : Ext h1 h3 := ⟨Nat.le_trans E.1 F.1, fun a c q => F.2 a c (E.2 a c q)⟩
theorem ext_refl (h : Heap) : Ext h h := ⟨Nat.le_refl _, fun _ _ q => q⟩
theorem ext_keep {h1 h2 h3 : Heap} {ws : List Addr} (E : Ext h1 h2) (K : Keep h2 h3 ws) (q : ∀ x ∈ ws, h1.size ≤ x) : Ext h1 h3 := ⟨Nat.le_trans E.1 K.1, fun a c r => K.2.1 a c (E.2 a c r) fun z => absurd (Array.getElem?_eq_some_iff.mp r).1 (Nat.not_lt.mpr (q a z))⟩
theorem ext_wr {h1 h2 h3 : Heap} {a : Addr} {sl : Nat} {v : Value} (E : Ext h1 h2) (K : Wr h2 h3 a sl v) (q : h1.size ≤ a) : Ext h1 h3 := ext_keep E (Keep.of_wr K) (allS q all0)
theorem Own.later {vm vm1 : Vm} {h h' : Heap} (C : CHr Z EL vm h vm1 h') (O : Own Z EL vm h W) : Own Z EL vm1 h' W := fun a ha => by
  obtain ⟨q1, q2, q3⟩ := O a ha
  exact ⟨q1, Nat.lt_of_lt_of_le q2 C.2.1, C.safe q2 q3⟩
theorem Wp.old (K : Ext Z.heap h → Wx l Z EL M R h W k n pc Ls st Q) : Wx l Z EL M R h W k n pc Ls st Q := by
  intro p e s m args below meth c hc T vm0 H
  obtain ⟨locs, k0, X, eT, hS, hk, hZ, hown, hC, hN, hO, q1, q2, hX, hWH, hEL⟩ := id H
  exact K hX p e s m args below meth c hc T vm0 H
theorem Own.app {vm : Vm} {W W' : List Addr} (A : Own Z EL vm h W) (B : Own Z EL vm h W') : Own Z EL vm h (W ++ W') := fun a ha => (List.mem_append.mp ha).elim (A a) (B a)
theorem Wp.up {k' n' : Nat} {W' : List Addr} (hk : k ≤ k') (hn : n ≤ n') (hk' : k' ≤ R.cells) (hn' : n' ≤ R.slots) (hW : ∀ a ∈ W', a ∈ W) (K : Wx l Z EL M R h W' k' n' pc Ls st Q) : Wx l Z EL M R h W k n pc Ls st Q := by
  intro p e s m args below meth c hc T vm0 H
  obtain ⟨locs, k0, X, eT, hS, hk, hZ, hown, hC, hN, hO, q1, q2, r⟩ := H
  exact K p e s m args below meth c hc T vm0 ⟨locs, k0, X.mono (by omega) (by omega), eT, hS, hk, hZ, hown, hC, hN, fun a ha => hO a (hW a ha), hk', hn', r⟩
theorem Wp.conseq {Q' : Option Value → Heap → List Addr → Prop} (K : Wx l Z EL M R h W k n pc Ls st Q') (i : ∀ v h' Wo, Q' v h' Wo → Q v h' Wo) : Wx l Z EL M R h W k n pc Ls st Q := by
  intro p e s m args below meth c hc T vm0 H
  obtain ⟨s₂, v, L, Wo, h1, h2, h3, h4, r⟩ := K p e s m args below meth c hc T vm0 H
  exact ⟨s₂, v, L, Wo, h1, h2, h3, i _ _ _ h4, r⟩
theorem Ct.conseq {rm : Room} {as : Array Value} {Q Q' : Option Value → Heap → Prop} (K : Ct l Z EL M rm as h W Q') (i : ∀ v h', Q' v h' → Q v h') : Ct l Z EL M rm as h W Q := by
  intro p e ha hc hk s m args below hf happ hP hK
  obtain ⟨nn, o, q1, q2, q3, v, L, Wo, q4, q5, r⟩ := K p e ha hc hk s m args below hf happ hP hK
  exact ⟨nn, o, q1, q2, q3, v, L, Wo, q4, i _ _ q5, r⟩
/-! ### branches -/
def cdP : ClassFile.Cond → Int32 → Int32 → Prop
  | .eq, x, y => x = y | .ne, x, y => ¬ x = y | .lt, x, y => x < y | .ge, x, y => ¬ x < y | .gt, x, y => y < x | .le, x, y => ¬ y < x
def cdN : ClassFile.Cond → Int32 → Int32 → Prop
  | .eq, x, y => ¬ x = y | .ne, x, y => x = y | .lt, x, y => ¬ x < y | .ge, x, y => x < y | .gt, x, y => ¬ y < x | .le, x, y => y < x
theorem cd_em (cd : ClassFile.Cond) (x y : Int32) : cdP cd x y ∨ cdN cd x y := by cases cd <;> simp only [cdP, cdN] <;> first | exact Decidable.em _ | exact (Decidable.em _).symm
theorem cdP_t {cd : ClassFile.Cond} {x y : Int32} (q : cdP cd x y) : if_icmp.holds cd x y = true := by
  cases cd
  · exact XT.ii_eq_t q
  · exact XT.ii_ne_t q
  · exact XT.ii_lt_t q
  · exact XT.ii_ge_t q
  · exact XT.ii_gt_t q
  · exact XT.ii_le_t q
theorem cdN_f {cd : ClassFile.Cond} {x y : Int32} (q : cdN cd x y) : if_icmp.holds cd x y = false := by
  cases cd
  · exact XT.ii_eq_f q
  · exact XT.ii_ne_f q
  · exact XT.ii_lt_f q
  · exact XT.ii_ge_f q
  · exact XT.ii_gt_f q
  · exact XT.ii_le_f q
theorem cd0_t {cd : ClassFile.Cond} {x : Int32} (q : cdP cd x 0) : ifCond.holds cd x = true := by
  cases cd
  · exact XT.i0_eq_t q
  · exact XT.i0_ne_t q
  · exact XT.i0_lt_t q
  · exact XT.i0_ge_t q
  · exact XT.i0_gt_t q
  · exact XT.i0_le_t q
theorem cd0_f {cd : ClassFile.Cond} {x : Int32} (q : cdN cd x 0) : ifCond.holds cd x = false := by
  cases cd
  · exact XT.i0_eq_f q
  · exact XT.i0_ne_f q
  · exact XT.i0_lt_f q
  · exact XT.i0_ge_f q
  · exact XT.i0_gt_f q
  · exact XT.i0_le_f q
theorem Wp.icmpT (ok : TabOk M.2.1 tb) {cd : ClassFile.Cond} {o : Int} {x y : Int32} {rest : List Value} (pc' : Nat) (hf : fnd tb pc = some (.if_icmp cd o, 3)) (hst : st = .int y :: .int x :: rest) (hc : cdP cd x y) (ho : 0 ≤ (pc : Int) + o) (hp : ((pc : Int) + o).toNat = pc') (K : Wx l Z EL M R h W k n pc' Ls rest Q) : Wx l Z EL M R h W k n pc Ls st Q := by
  subst hst
  exact Wp.pure (fun hA hx hb hr => XS.icmpYes hA hx rfl (pc0 := pc) rfl (by rw [hb]; exact fnd_ok ok hf) rfl (cdP_t hc) ho hp hr) K
theorem Wp.icmpF (ok : TabOk M.2.1 tb) {cd : ClassFile.Cond} {o : Int} {x y : Int32} {rest : List Value} (hf : fnd tb pc = some (.if_icmp cd o, 3)) (hst : st = .int y :: .int x :: rest) (hc : cdN cd x y) (K : Wx l Z EL M R h W k n (pc + 3) Ls rest Q) : Wx l Z EL M R h W k n pc Ls st Q := by
  subst hst
  exact Wp.pure (fun hA hx hb hr => XS.icmpNo hA hx rfl (by rw [hb]; exact fnd_ok ok hf) rfl (cdN_f hc) hr) K
theorem Wp.icmp (ok : TabOk M.2.1 tb) {cd : ClassFile.Cond} {o : Int} {x y : Int32} {rest : List Value} (pc' : Nat) (hf : fnd tb pc = some (.if_icmp cd o, 3)) (hst : st = .int y :: .int x :: rest) (ho : 0 ≤ (pc : Int) + o) (hp : ((pc : Int) + o).toNat = pc') (K1 : cdP cd x y → Wx l Z EL M R h W k n pc' Ls rest Q) (K2 : cdN cd x y → Wx l Z EL M R h W k n (pc + 3) Ls rest Q) : Wx l Z EL M R h W k n pc Ls st Q :=
  (cd_em cd x y).elim (fun q => Wp.icmpT ok pc' hf hst q ho hp (K1 q)) (fun q => Wp.icmpF ok hf hst q (K2 q))
theorem Wp.ifT (ok : TabOk M.2.1 tb) {cd : ClassFile.Cond} {o : Int} {x : Int32} {rest : List Value} (pc' : Nat) (hf : fnd tb pc = some (.ifCond cd o, 3)) (hst : st = .int x :: rest) (hc : cdP cd x 0) (ho : 0 ≤ (pc : Int) + o) (hp : ((pc : Int) + o).toNat = pc') (K : Wx l Z EL M R h W k n pc' Ls rest Q) : Wx l Z EL M R h W k n pc Ls st Q := by
  subst hst
  exact Wp.pure (fun hA hx hb hr => XS.ifYes hA hx rfl (pc0 := pc) rfl (by rw [hb]; exact fnd_ok ok hf) rfl (cd0_t hc) ho hp hr) K
theorem Wp.ifF (ok : TabOk M.2.1 tb) {cd : ClassFile.Cond} {o : Int} {x : Int32} {rest : List Value} (hf : fnd tb pc = some (.ifCond cd o, 3)) (hst : st = .int x :: rest) (hc : cdN cd x 0) (K : Wx l Z EL M R h W k n (pc + 3) Ls rest Q) : Wx l Z EL M R h W k n pc Ls st Q := by
  subst hst
  exact Wp.pure (fun hA hx hb hr => XS.ifNo hA hx rfl (by rw [hb]; exact fnd_ok ok hf) rfl (cd0_f hc) hr) K
theorem Wp.if0 (ok : TabOk M.2.1 tb) {cd : ClassFile.Cond} {o : Int} {x : Int32} {rest : List Value} (pc' : Nat) (hf : fnd tb pc = some (.ifCond cd o, 3)) (hst : st = .int x :: rest) (ho : 0 ≤ (pc : Int) + o) (hp : ((pc : Int) + o).toNat = pc') (K1 : cdP cd x 0 → Wx l Z EL M R h W k n pc' Ls rest Q) (K2 : cdN cd x 0 → Wx l Z EL M R h W k n (pc + 3) Ls rest Q) : Wx l Z EL M R h W k n pc Ls st Q :=
  (cd_em cd x 0).elim (fun q => Wp.ifT ok pc' hf hst q ho hp (K1 q)) (fun q => Wp.ifF ok hf hst q (K2 q))
theorem Wp.nullT (ok : TabOk M.2.1 tb) {o : Int} {rest : List Value} (pc' : Nat) (hf : fnd tb pc = some (.ifnull o, 3)) (hst : st = .null :: rest) (ho : 0 ≤ (pc : Int) + o) (hp : ((pc : Int) + o).toNat = pc') (K : Wx l Z EL M R h W k n pc' Ls rest Q) : Wx l Z EL M R h W k n pc Ls st Q := by
  subst hst
  exact Wp.pure (fun hA hx hb hr => XS.ifnullYes hA hx rfl (pc0 := pc) rfl (by rw [hb]; exact fnd_ok ok hf) rfl ho hp hr) K
theorem Wp.nullF (ok : TabOk M.2.1 tb) {o : Int} {a : Addr} {rest : List Value} (hf : fnd tb pc = some (.ifnull o, 3)) (hst : st = .ref a :: rest) (K : Wx l Z EL M R h W k n (pc + 3) Ls rest Q) : Wx l Z EL M R h W k n pc Ls st Q := by
  subst hst
  exact Wp.pure (fun hA hx hb hr => XS.ifnullNo hA hx rfl (by rw [hb]; exact fnd_ok ok hf) rfl hr) K
theorem Wp.nonnullT (ok : TabOk M.2.1 tb) {o : Int} {a : Addr} {rest : List Value} (pc' : Nat) (hf : fnd tb pc = some (.ifnonnull o, 3)) (hst : st = .ref a :: rest) (ho : 0 ≤ (pc : Int) + o) (hp : ((pc : Int) + o).toNat = pc') (K : Wx l Z EL M R h W k n pc' Ls rest Q) : Wx l Z EL M R h W k n pc Ls st Q := by
  subst hst
  exact Wp.pure (fun hA hx hb hr => XT.ifnonnullYes hA hx rfl (pc0 := pc) rfl (by rw [hb]; exact fnd_ok ok hf) rfl ho hp hr) K
theorem Wp.nonnullF (ok : TabOk M.2.1 tb) {o : Int} {rest : List Value} (hf : fnd tb pc = some (.ifnonnull o, 3)) (hst : st = .null :: rest) (K : Wx l Z EL M R h W k n (pc + 3) Ls rest Q) : Wx l Z EL M R h W k n pc Ls st Q := by
  subst hst
  exact Wp.pure (fun hA hx hb hr => XT.ifnonnullNo hA hx rfl (by rw [hb]; exact fnd_ok ok hf) rfl hr) K
theorem Wp.acmpT (ok : TabOk M.2.1 tb) {cd : ACond} {o : Int} {x y : Value} {rest : List Value} (pc' : Nat) (hf : fnd tb pc = some (.if_acmp cd o, 3)) (hst : st = y :: x :: rest) (h1 : x.isRef = true) (h2 : y.isRef = true) (hc : XT.acmp cd x y = true) (ho : 0 ≤ (pc : Int) + o) (hp : ((pc : Int) + o).toNat = pc') (K : Wx l Z EL M R h W k n pc' Ls rest Q) : Wx l Z EL M R h W k n pc Ls st Q := by
  subst hst
  exact Wp.pure (fun hA hx hb hr => XT.acmpYes hA hx rfl (pc0 := pc) rfl (by rw [hb]; exact fnd_ok ok hf) rfl h1 h2 hc ho hp hr) K
theorem Wp.acmpF (ok : TabOk M.2.1 tb) {cd : ACond} {o : Int} {x y : Value} {rest : List Value} (hf : fnd tb pc = some (.if_acmp cd o, 3)) (hst : st = y :: x :: rest) (h1 : x.isRef = true) (h2 : y.isRef = true) (hc : XT.acmp cd x y = false) (K : Wx l Z EL M R h W k n (pc + 3) Ls rest Q) : Wx l Z EL M R h W k n pc Ls st Q := by
  subst hst
  exact Wp.pure (fun hA hx hb hr => XT.acmpNo hA hx rfl (by rw [hb]; exact fnd_ok ok hf) rfl h1 h2 hc hr) K
theorem Wp.idiv (ok : TabOk M.2.1 tb) {x y : Int32} {rest : List Value} (hf : fnd tb pc = some (.idiv, 1)) (hst : st = .int y :: .int x :: rest) (hy : y ≠ 0) (K : Wx l Z EL M R h W k n (pc + 1) Ls (.int (x / y) :: rest) Q) : Wx l Z EL M R h W k n pc Ls st Q := by
  subst hst
  exact Wp.pure (fun hA hx hb hr => XS.idiv hA hx rfl (by rw [hb]; exact fnd_ok ok hf) rfl hy hr) K
theorem Wp.irem (ok : TabOk M.2.1 tb) {x y : Int32} {rest : List Value} (hf : fnd tb pc = some (.irem, 1)) (hst : st = .int y :: .int x :: rest) (hy : y ≠ 0) (K : Wx l Z EL M R h W k n (pc + 1) Ls (.int (x % y) :: rest) Q) : Wx l Z EL M R h W k n pc Ls st Q := by
  subst hst
  refine Wp.pure (fun hA hx hb hr => XS.irem hA hx rfl (by rw [hb]; exact fnd_ok ok hf) rfl hy ?_) K
  have q : x - x / y * y = x % y := irem_eq_mod x y
  rw [q]; exact hr
theorem Wp.ldiv (ok : TabOk M.2.1 tb) {x y : Int64} {rest : List Value} (hf : fnd tb pc = some (.ldiv, 1)) (hst : st = .long y :: .long x :: rest) (hy : y ≠ 0) (K : Wx l Z EL M R h W k n (pc + 1) Ls (.long (x / y) :: rest) Q) : Wx l Z EL M R h W k n pc Ls st Q := by
  subst hst
  exact Wp.pure (fun hA hx hb hr => XT.ldiv hA hx rfl (by rw [hb]; exact fnd_ok ok hf) rfl hy hr) K
theorem Wp.lrem (ok : TabOk M.2.1 tb) {x y : Int64} {rest : List Value} (hf : fnd tb pc = some (.lrem, 1)) (hst : st = .long y :: .long x :: rest) (hy : y ≠ 0) (K : Wx l Z EL M R h W k n (pc + 1) Ls (.long (x % y) :: rest) Q) : Wx l Z EL M R h W k n pc Ls st Q := by
  subst hst
  refine Wp.pure (fun hA hx hb hr => XT.lrem hA hx rfl (by rw [hb]; exact fnd_ok ok hf) rfl hy ?_) K
  rw [lrem_mod]; exact hr
/-! ### the three kinds of step over the heap -/
theorem Wp.stay {pc' : Nat} {Ls' : Array Slot} {st' : List Value} (hs : ∀ {p : Program} {e : Env} {s : State} {m : MethodId} {args : Array Value} {below : List Frame} {meth : Method} {c : Code} {T : State} {locs : List Loc}, Cx M p meth c → Stand p l e R s m args below meth c T locs k n → T.heap = h → Z.Warmed39 s.vm → s.vm.findClass M.1.cls = some m.cls →
      ∃ T', Stand p l e R s m args below meth c T' locs k n ∧ T'.heap = h ∧ ∀ target, Steps p.tables e below (T'.setTop (mkF m pc' Ls' st')) target → Steps p.tables e below (T.setTop (mkF m pc Ls st)) target)
    (K : Wx l Z EL M R h W k n pc' Ls' st' Q) : Wx l Z EL M R h W k n pc Ls st Q := by
  intro p e s m args below meth c hc T vm0 H
  obtain ⟨locs, k0, X, eT, hS, hk, hZ, hown, r⟩ := H
  obtain ⟨T', X', eT', stp⟩ := hs hc X eT hZ hown
  exact (K p e s m args below meth c hc T' vm0 ⟨locs, k0, X', eT', hS, hk, hZ, hown, r⟩).pre stp
theorem Wp.grow {pc' k' n' : Nat} {Ls' : Array Slot} {st' : List Value} {P : Heap → Prop} (hk' : k' ≤ R.cells) (hn' : n' ≤ R.slots) (hP : ∀ h', P h' → h.size < h'.size)
    (hs : ∀ {p : Program} {e : Env} {s : State} {m : MethodId} {args : Array Value} {below : List Frame} {meth : Method} {c : Code} {T : State} {locs : List Loc}, Cx M p meth c → Stand p l e R s m args below meth c T locs k n → T.heap = h → Z.Warmed39 s.vm → s.vm.findClass M.1.cls = some m.cls →
      ∃ T' h', Stand p l e R s m args below meth c T' locs k' n' ∧ T'.heap = h' ∧ Ext h h' ∧ P h' ∧ ∀ target, Steps p.tables e below (T'.setTop (mkF m pc' Ls' st')) target → Steps p.tables e below (T.setTop (mkF m pc Ls st)) target)
    (K : ∀ h', Ext h h' → P h' → Wx l Z EL M R h' (h.size :: W) k' n' pc' Ls' st' Q) : Wx l Z EL M R h W k n pc Ls st Q := by
  intro p e s m args below meth c hc T vm0 H
  obtain ⟨locs, k0, X, eT, hS, hk, hZ, hown, hC, hN, hO, -, -, hX, hWH, hEL⟩ := H
  obtain ⟨T', h', X', eT', E, hPh, stp⟩ := hs hc X eT hZ hown
  have C2 := CHr.ext E hC.1
  refine (K h' E hPh p e s m args below meth c hc T' vm0 ⟨locs, k0, X', eT', hS, Nat.le_trans hk E.1, hZ, hown, hC.trans C2, hN, ?_, hk', hn', ext_trans hX E, hWH, hEL⟩).pre stp
  intro a ha
  rcases List.mem_cons.mp ha with rfl | ha
  · exact ⟨hX.1, hP _ hPh, (Safe.new (Nat.le_refl _)).ext E hC.1⟩
  · exact Own.later C2 hO a ha
theorem Wp.wr {pc' : Nat} {Ls' : Array Slot} {st' : List Value} {a : Addr} {sl : Nat} {v : Value} (ha : a ∈ W)
    (hs : ∀ {p : Program} {e : Env} {s : State} {m : MethodId} {args : Array Value} {below : List Frame} {meth : Method} {c : Code} {T : State} {locs : List Loc}, Cx M p meth c → Stand p l e R s m args below meth c T locs k n → T.heap = h → Z.Warmed39 s.vm → s.vm.findClass M.1.cls = some m.cls →
      ∃ T' h', Stand p l e R s m args below meth c T' (locs ++ [⟨a, sl⟩]) k n ∧ T'.heap = h' ∧ Wr h h' a sl v ∧ ∀ target, Steps p.tables e below (T'.setTop (mkF m pc' Ls' st')) target → Steps p.tables e below (T.setTop (mkF m pc Ls st)) target)
    (K : ∀ h', Wr h h' a sl v → Wx l Z EL M R h' W k n pc' Ls' st' Q) : Wx l Z EL M R h W k n pc Ls st Q := by
  intro p e s m args below meth c hc T vm0 H
  obtain ⟨locs, k0, X, eT, hS, hk, hZ, hown, hC, hN, hO, q1, q2, hX, hWH, hEL⟩ := H
  obtain ⟨T', h', X', eT', Wr', stp⟩ := hs hc X eT hZ hown
  have C2 := CHr.wr Wr' (hO a ha).2.2 hC.1
  exact (K h' Wr' p e s m args below meth c hc T' vm0 ⟨_, k0, X', eT', hS, by rw [Wr'.size]; exact hk, hZ, hown, hC.trans C2, Fr.snoc X' hN (hO a ha).1, Own.later C2 hO, q1, q2, ext_wr hX Wr' (hO a ha).1, hWH, hEL⟩).pre stp
/-! ### calls -/
theorem backC {M' : Mth} {rm : Room} {as : Array Value} {W' : List Addr} {Q' : Option Value → Heap → List Addr → Prop} {p : Program} {e : Env} {below : List Frame} {s : State} {args : Array Value} {vm0 : Vm} {len Wd : Nat} (C : Ct3 l Z EL M' rm as h W' Q') (hZ : Z.Warmed39 vm0) (wc : (Jvm.Cond.code M'.1 M'.2.1 M'.2.2.1 M'.2.2.2).before a0 Z = true) (wz : (Jvm.Cond.initialized M'.1.cls).before a0 Z = true)
    (hf : rm.frames + 1 ≤ R.frames) (hl : Wd + (M'.2.2.1 + 11) + rm.locals ≤ R.locals) (hEL : EW Z a0 EL) (H : CHv Z EL vm0 h) (hO : Own Z EL vm0 h W') (hX : Ext Z.heap h) :
    BackS l R p e below (s.setVm vm0) args M'.1 len Wd (fun A a => a = as ∧ A.U.heap = h ∧ A.cells + rm.cells ≤ R.cells ∧ A.slots + rm.slots ≤ R.slots)
      (fun A _ v B => ∃ L Wo, Q' v B.U.heap Wo ∧ Own Z EL B.U.vm B.U.heap Wo ∧ Fr Z.heap.size L ∧ B.locs = A.locs ++ L ∧ B.cells = A.cells + rm.cells ∧ B.slots = A.slots + rm.slots ∧ CHr Z EL vm0 h B.U.vm B.U.heap ∧ Ext Z.heap B.U.heap ∧ (EL = [] → (s.setVm vm0).WarmedH B.U.vm)) :=
  BackS.of_freeW (bytes := M'.2.1) (maxL := M'.2.2.1) (ret := M'.2.2.2) (E := fun _ first o t L k n => k = rm.cells ∧ n = rm.slots ∧ (∃ v Wo, o = .returned v ∧ Q' v t.heap Wo ∧ Own Z EL t.vm t.heap Wo) ∧ Fr Z.heap.size L ∧ CHr Z EL first.vm first.heap t.vm t.heap ∧ Ext Z.heap t.heap ∧ (EL = [] → first.WarmedH t.vm)) C hf hl
    (fun m meth c A a Y hp => have hU : Z.Warmed39 A.U.vm := wtrans (s := s.setVm vm0) hZ Y.warmed
      ⟨by show (Jvm.Cond.and _ .tt).before a A.U = true; rw [Cond.before_and, mv hU wc]; rfl, mv hU wc, mv hU wz, hp.2.2.1, hp.2.2.2⟩)
    (fun m meth c A a g mk Y hp => ⟨hp.1, wtrans (s := s.setVm vm0) hZ Y.warmed, hp.2.1, (show CHv Z EL A.U.vm h from (CHv.at Y hZ hEL H).1), (show Own Z EL A.U.vm h W' from Own.later (CHv.at Y hZ hEL H) hO), hX⟩) (fun _ _ _ _ _ _ _ _ _ => trivial)
    (fun _ _ _ _ ⟨v, L, Wo, h1, h2, h8, h3, h4, h6, h7, h5⟩ => ⟨L, _, _, h5, rfl, rfl, ⟨v, Wo, h1, h2, h8⟩, h3, h4, h6, h7⟩)
    (fun m meth c A a g mk v t L k n Y hp _ _ ⟨e1, e2, ⟨v', Wo, e3, e4, e9⟩, e6, e5, e7, e8⟩ => by
      cases e3; subst e1 e2
      refine ⟨L, Wo, e4, e9, e6, rfl, rfl, rfl, (CHv.at Y hZ hEL H).trans ?_, e7, fun q => State.WarmedH.trans Y.warmed (e8 q)⟩
      rw [← hp.2.1]; exact e5)
abbrev noH (y : MethodName) : Prop := y.cls ≠ "java/lang/invoke/MethodHandle" ∧ y.cls ≠ "java/lang/invoke/VarHandle"
/-- the general call: what each of the four kinds of invoke gives -/
theorem Wp.call3 {M' : Mth} {rm : Room} {as : Array Value} {W' : List Addr} {Q' : Option Value → Heap → List Addr → Prop} {rest : List Value} {Wd len : Nat} (C : Ct3 l Z EL M' rm as h W' Q') (hEL : EW Z a0 EL) (wc : (Jvm.Cond.code M'.1 M'.2.1 M'.2.2.1 M'.2.2.2).before a0 Z = true) (wz : (Jvm.Cond.initialized M'.1.cls).before a0 Z = true)
    (hf : rm.frames + 1 ≤ R.frames) (hl : Wd + (M'.2.2.1 + 11) + rm.locals ≤ R.locals) (hce : k + rm.cells ≤ R.cells) (hsl : n + rm.slots ≤ R.slots) (hW : ∀ a ∈ W', a ∈ W)
    (hs : ∀ {p : Program} {e : Env} {s : State} {vm0 : Vm} {m : MethodId} {args : Array Value} {below : List Frame} {meth : Method} {c : Code} {T : State} {locs : List Loc} {Pre : Pt → Array Value → Prop} {Post : Pt → Array Value → Option Value → Pt → Prop}, Cx M p meth c → Stand p l e R (s.setVm vm0) m args below meth c T locs k n → T.heap = h → Z.Warmed39 vm0 → vm0.findClass M.1.cls = some m.cls →
      BackS l R p e below (s.setVm vm0) args M'.1 len Wd Pre Post → (∀ vm₁, (s.setVm vm0).WarmedH vm₁ → Pre ⟨T.setVm vm₁, locs, k, n⟩ as) →
      ∃ (v : Option Value) (vm₁ : Vm) (B : Pt), (s.setVm vm0).WarmedH vm₁ ∧ Stand p l e R ((s.setVm vm0).setVm B.U.vm) m args below meth c B.U B.locs B.cells B.slots ∧ (s.setVm vm0).Since B.U.vm B.U.heap.size ∧ T.heap.size ≤ B.U.heap.size ∧ Post ⟨T.setVm vm₁, locs, k, n⟩ as v B ∧
        Steps p.tables e below (T.setTop (mkF m pc Ls st)) (B.U.setTop (mkF m (pc + len) Ls (v.toList ++ rest))))
    (K : ∀ v h' Wo, Q' v h' Wo → h.size ≤ h'.size → Wx l Z EL M R h' (Wo ++ W) (k + rm.cells) (n + rm.slots) (pc + len) Ls (v.toList ++ rest) Q) : Wx l Z EL M R h W k n pc Ls st Q := by
  intro p e s m args below meth c hc T vm0 H
  obtain ⟨locs, k0, X, eT, hS, hk, hZ, hown, hC, hN, hO, q1, q2, hX, hWH, hEL2⟩ := H
  obtain ⟨v, vm₁, B, hw1, XB, hS2, hgr, ⟨L, Wo, hQ, hOo, hL, b1, b2, b3, hC2, hX2, hWH2⟩, stp⟩ := hs hc X eT hZ hown (backC C hZ wc wz hf hl hEL hC.1 (fun a ha => hO a (hW a ha)) hX) fun vm₁ _ => ⟨rfl, eT, hce, hsl⟩
  obtain ⟨X', hS', hZ', hown'⟩ := rebS hS (Nat.le_trans hk (Nat.le_of_eq (congrArg _ eT).symm)) XB hS2 hgr hZ hown
  have b1 : B.locs = locs ++ L := b1
  have b2 : B.cells = k + rm.cells := b2
  have b3 : B.slots = n + rm.slots := b3
  rw [b1, b2, b3] at X'
  exact (K v B.U.heap Wo hQ hC2.2.1 p e s m args below meth c hc B.U B.U.vm ⟨_, _, X', rfl, hS', Nat.le_refl _, hZ', hown', hC.trans hC2, Fr.app hN hL, Own.app hOo (Own.later hC2 hO), hce, hsl, hX2, fun q => State.WarmedH.trans (hWH q) (hWH2 q), hEL2⟩).pre fun t q => stp.trans q
theorem Wp.call {M' : Mth} {rm : Room} {as : Array Value} {W' : List Addr} {Q' : Option Value → Heap → Prop} {rest : List Value} {Wd len : Nat} (C : Ct l Z EL M' rm as h W' Q') (hEL : EW Z a0 EL) (wc : (Jvm.Cond.code M'.1 M'.2.1 M'.2.2.1 M'.2.2.2).before a0 Z = true) (wz : (Jvm.Cond.initialized M'.1.cls).before a0 Z = true)
    (hf : rm.frames + 1 ≤ R.frames) (hl : Wd + (M'.2.2.1 + 11) + rm.locals ≤ R.locals) (hce : k + rm.cells ≤ R.cells) (hsl : n + rm.slots ≤ R.slots) (hW : ∀ a ∈ W', a ∈ W)
    (hs : ∀ {p : Program} {e : Env} {s : State} {vm0 : Vm} {m : MethodId} {args : Array Value} {below : List Frame} {meth : Method} {c : Code} {T : State} {locs : List Loc} {Pre : Pt → Array Value → Prop} {Post : Pt → Array Value → Option Value → Pt → Prop}, Cx M p meth c → Stand p l e R (s.setVm vm0) m args below meth c T locs k n → T.heap = h → Z.Warmed39 vm0 → vm0.findClass M.1.cls = some m.cls →
      BackS l R p e below (s.setVm vm0) args M'.1 len Wd Pre Post → (∀ vm₁, (s.setVm vm0).WarmedH vm₁ → Pre ⟨T.setVm vm₁, locs, k, n⟩ as) →
      ∃ (v : Option Value) (vm₁ : Vm) (B : Pt), (s.setVm vm0).WarmedH vm₁ ∧ Stand p l e R ((s.setVm vm0).setVm B.U.vm) m args below meth c B.U B.locs B.cells B.slots ∧ (s.setVm vm0).Since B.U.vm B.U.heap.size ∧ T.heap.size ≤ B.U.heap.size ∧ Post ⟨T.setVm vm₁, locs, k, n⟩ as v B ∧
        Steps p.tables e below (T.setTop (mkF m pc Ls st)) (B.U.setTop (mkF m (pc + len) Ls (v.toList ++ rest))))
    (K : ∀ v h', Q' v h' → h.size ≤ h'.size → Wx l Z EL M R h' W (k + rm.cells) (n + rm.slots) (pc + len) Ls (v.toList ++ rest) Q) : Wx l Z EL M R h W k n pc Ls st Q :=
  Wp.call3 (Q' := fun v h' _ => Q' v h') C hEL wc wz hf hl hce hsl hW hs (fun v h' Wo q hh => Wp.up (Nat.le_refl _) (Nat.le_refl _) hce hsl (fun a ha => List.mem_append_right _ ha) (K v h' q hh))
theorem Wp.callS (ok : TabOk M.2.1 tb) {M' : Mth} {rm : Room} {index : Nat} {W' : List Addr} {Q' : Option Value → Heap → Prop} {argsL rest : List Value} {ps : List FieldType} {rt : Option FieldType} (C : Ct l Z EL M' rm argsL.toArray h W' Q') (hEL : EW Z a0 EL) (w1 : (Jvm.Cond.methodLink M.1.cls index M'.1).before a0 Z = true) (w2 : (Jvm.Cond.static M'.1).before a0 Z = true) (wz : (Jvm.Cond.initialized M'.1.cls).before a0 Z = true) (wc : (Jvm.Cond.code M'.1 M'.2.1 M'.2.2.1 M'.2.2.2).before a0 Z = true)
    (hf : fnd tb pc = some (.invokestatic index, 3)) (hst : st = argsL.reverse ++ rest) (hy : noH M'.1) (hd : parseMethodDescriptor M'.1.desc = some ⟨ps, rt⟩) (hlen : argsL.length = ps.length) (hsz : Ls.size = M.2.2.1) (hfr : rm.frames + 1 ≤ R.frames) (hl : (rest.map fun v => v.category).sum + (M'.2.2.1 + 11) + rm.locals ≤ R.locals) (hce : k + rm.cells ≤ R.cells) (hsl : n + rm.slots ≤ R.slots) (hW : ∀ a ∈ W', a ∈ W)
    (K : ∀ v h', Q' v h' → h.size ≤ h'.size → Wx l Z EL M R h' W (k + rm.cells) (n + rm.slots) (pc + 3) Ls (v.toList ++ rest) Q) : Wx l Z EL M R h W k n pc Ls st Q := by
  subst hst
  refine Wp.call C hEL wc wz hfr hl hce hsl hW (fun {p e s vm0 m args below meth c T locs Pre Post} hc X eT hZ hown hB hpre => ?_) K
  exact callSS X hc.1 (y := M'.1) (bytes := M'.2.1) (maxL := M'.2.2.1) (ret := M'.2.2.2) hown (mvT (s := s.setVm vm0) hZ w1) (mvT (s := s.setVm vm0) hZ w2) (mvT (s := s.setVm vm0) hZ wz) (mvT (s := s.setVm vm0) hZ wc) hy hB (g := mkF m pc Ls (argsL.reverse ++ rest)) rfl (by rw [hc.2.2.1]; exact hsz) (argsL := argsL) (rest := rest) (lenOf hd hlen) rfl (by show 2 * 0 + _ ≤ _; simp) (by rw [hc.2.1]; exact fnd_ok ok hf) hpre
theorem Wp.callI (ok : TabOk M.2.1 tb) {M' : Mth} {rm : Room} {index : Nat} {W' : List Addr} {Q' : Option Value → Heap → Prop} {a : Addr} {argsL rest : List Value} {ps : List FieldType} {rt : Option FieldType} (C : Ct l Z EL M' rm (.ref a :: argsL).toArray h W' Q') (hEL : EW Z a0 EL) (w1 : (Jvm.Cond.methodLink M.1.cls index M'.1).before a0 Z = true) (w2 : (Jvm.Cond.instanceMethod M'.1).before a0 Z = true) (wz : (Jvm.Cond.initialized M'.1.cls).before a0 Z = true) (wc : (Jvm.Cond.code M'.1 M'.2.1 M'.2.2.1 M'.2.2.2).before a0 Z = true)
    (hf : fnd tb pc = some (.invokespecial index, 3)) (hst : st = argsL.reverse ++ .ref a :: rest) (hi : M'.1.name = "<init>") (hret : M'.2.2.2 = none) (hy : noH M'.1) (hd : parseMethodDescriptor M'.1.desc = some ⟨ps, rt⟩) (hlen : argsL.length = ps.length) (hsz : Ls.size = M.2.2.1) (hfr : rm.frames + 1 ≤ R.frames) (hl : (rest.map fun v => v.category).sum + (M'.2.2.1 + 11) + rm.locals ≤ R.locals) (hce : k + rm.cells ≤ R.cells) (hsl : n + rm.slots ≤ R.slots) (hW : ∀ a ∈ W', a ∈ W)
    (K : ∀ v h', Q' v h' → h.size ≤ h'.size → Wx l Z EL M R h' W (k + rm.cells) (n + rm.slots) (pc + 3) Ls (v.toList ++ rest) Q) : Wx l Z EL M R h W k n pc Ls st Q := by
  subst hst
  refine Wp.call C hEL wc wz hfr hl hce hsl hW (fun {p e s vm0 m args below meth c T locs Pre Post} hc X eT hZ hown hB hpre => ?_) K
  have wc' := wc
  rw [hret] at wc'
  exact X.specialBackS hc.1 (y := M'.1) hi hown (mvT (s := s.setVm vm0) hZ w1) (mvT (s := s.setVm vm0) hZ w2) (bytes := M'.2.1) (maxL := M'.2.2.1) (mvT (s := s.setVm vm0) hZ wc') hy hB (g := mkF m pc Ls (argsL.reverse ++ .ref a :: rest)) rfl (by rw [hc.2.2.1]; exact hsz) (Steps.refl _) (a := a) (argsL := argsL) (rest := rest) (lenOf hd hlen) rfl (by show 2 * 0 + _ ≤ _; simp) (by rw [hc.2.1]; exact fnd_ok ok hf) hpre
theorem Wp.callI3 (ok : TabOk M.2.1 tb) {M' : Mth} {rm : Room} {index : Nat} {W' : List Addr} {Q' : Option Value → Heap → List Addr → Prop} {a : Addr} {argsL rest : List Value} {ps : List FieldType} {rt : Option FieldType} (C : Ct3 l Z EL M' rm (.ref a :: argsL).toArray h W' Q') (hEL : EW Z a0 EL) (w1 : (Jvm.Cond.methodLink M.1.cls index M'.1).before a0 Z = true) (w2 : (Jvm.Cond.instanceMethod M'.1).before a0 Z = true) (wz : (Jvm.Cond.initialized M'.1.cls).before a0 Z = true) (wc : (Jvm.Cond.code M'.1 M'.2.1 M'.2.2.1 M'.2.2.2).before a0 Z = true)
    (hf : fnd tb pc = some (.invokespecial index, 3)) (hst : st = argsL.reverse ++ .ref a :: rest) (hi : M'.1.name = "<init>") (hret : M'.2.2.2 = none) (hy : noH M'.1) (hd : parseMethodDescriptor M'.1.desc = some ⟨ps, rt⟩) (hlen : argsL.length = ps.length) (hsz : Ls.size = M.2.2.1) (hfr : rm.frames + 1 ≤ R.frames) (hl : (rest.map fun v => v.category).sum + (M'.2.2.1 + 11) + rm.locals ≤ R.locals) (hce : k + rm.cells ≤ R.cells) (hsl : n + rm.slots ≤ R.slots) (hW : ∀ a ∈ W', a ∈ W)
    (K : ∀ v h' Wo, Q' v h' Wo → h.size ≤ h'.size → Wx l Z EL M R h' (Wo ++ W) (k + rm.cells) (n + rm.slots) (pc + 3) Ls (v.toList ++ rest) Q) : Wx l Z EL M R h W k n pc Ls st Q := by
  subst hst
  refine Wp.call3 C hEL wc wz hfr hl hce hsl hW (fun {p e s vm0 m args below meth c T locs Pre Post} hc X eT hZ hown hB hpre => ?_) K
  have wc' := wc
  rw [hret] at wc'
  exact X.specialBackS hc.1 (y := M'.1) hi hown (mvT (s := s.setVm vm0) hZ w1) (mvT (s := s.setVm vm0) hZ w2) (bytes := M'.2.1) (maxL := M'.2.2.1) (mvT (s := s.setVm vm0) hZ wc') hy hB (g := mkF m pc Ls (argsL.reverse ++ .ref a :: rest)) rfl (by rw [hc.2.2.1]; exact hsz) (Steps.refl _) (a := a) (argsL := argsL) (rest := rest) (lenOf hd hlen) rfl (by show 2 * 0 + _ ≤ _; simp) (by rw [hc.2.1]; exact fnd_ok ok hf) hpre
theorem Wp.callV (ok : TabOk M.2.1 tb) {M' : Mth} {rm : Room} {index : Nat} {W' : List Addr} {Q' : Option Value → Heap → Prop} {a : Addr} {argsL rest : List Value} {ps : List FieldType} {rt : Option FieldType} {cC : String} (C : Ct l Z EL M' rm (.ref a :: argsL).toArray h W' Q') (E : Exa Z h a cC) (hEL : EW Z a0 EL) (w1 : (Jvm.Cond.methodLink M.1.cls index M'.1).before a0 Z = true) (wd : (Jvm.Cond.declares M'.1).before a0 Z = true) (ws : (Jvm.Cond.selects cC M'.1 M'.1).before a0 Z = true) (w2 : (Jvm.Cond.instanceMethod M'.1).before a0 Z = true) (wz : (Jvm.Cond.initialized M'.1.cls).before a0 Z = true) (wc : (Jvm.Cond.code M'.1 M'.2.1 M'.2.2.1 M'.2.2.2).before a0 Z = true)
    (hf : fnd tb pc = some (.invokevirtual index, 3)) (hst : st = argsL.reverse ++ .ref a :: rest) (hy : noH M'.1) (hd : parseMethodDescriptor M'.1.desc = some ⟨ps, rt⟩) (hlen : argsL.length = ps.length) (hsz : Ls.size = M.2.2.1) (hfr : rm.frames + 1 ≤ R.frames) (hl : (rest.map fun v => v.category).sum + (M'.2.2.1 + 11) + rm.locals ≤ R.locals) (hce : k + rm.cells ≤ R.cells) (hsl : n + rm.slots ≤ R.slots) (hW : ∀ a ∈ W', a ∈ W)
    (K : ∀ v h', Q' v h' → h.size ≤ h'.size → Wx l Z EL M R h' W (k + rm.cells) (n + rm.slots) (pc + 3) Ls (v.toList ++ rest) Q) : Wx l Z EL M R h W k n pc Ls st Q := by
  subst hst
  refine Wp.call C hEL wc wz hfr hl hce hsl hW (fun {p e s vm0 m args below meth c T locs Pre Post} hc X eT hZ hown hB hpre => ?_) K
  obtain ⟨cq, kq, qa, qb, qc⟩ := isOf (s := s.setVm vm0) hZ eT E
  exact X.virtualBackS hc.1 (y := M'.1) (z := M'.1) hown (mvT (s := s.setVm vm0) hZ w1) (mvT (s := s.setVm vm0) hZ wd) (notFace_of_selects (args := #[]) (mvT (s := s.setVm vm0) hZ ws)) (mvT (s := s.setVm vm0) hZ ws) (mvT (s := s.setVm vm0) hZ w2) hy hB qa qc (g := mkF m pc Ls (argsL.reverse ++ .ref a :: rest)) rfl (by rw [hc.2.2.1]; exact hsz) (Steps.refl _) (argsL := argsL) (rest := rest) (lenOf hd hlen) rfl (by show 2 * 0 + _ ≤ _; simp) (by rw [hc.2.1]; exact fnd_ok ok hf) hpre
/-- a private instance method by invokevirtual or invokespecial's younger form -/
theorem Wp.callP (ok : TabOk M.2.1 tb) {M' : Mth} {rm : Room} {index : Nat} {W' : List Addr} {Q' : Option Value → Heap → Prop} {a : Addr} {argsL rest : List Value} {ps : List FieldType} {rt : Option FieldType} {cC : String} (C : Ct l Z EL M' rm (.ref a :: argsL).toArray h W' Q') (E : Exa Z h a cC) (hEL : EW Z a0 EL) (w1 : (Jvm.Cond.methodLink M.1.cls index M'.1).before a0 Z = true) (ws : (Jvm.Cond.selects M'.1.cls M'.1 M'.1).before a0 Z = true) (wp : (Jvm.Cond.privateMethod M'.1).before a0 Z = true) (w2 : (Jvm.Cond.instanceMethod M'.1).before a0 Z = true) (wz : (Jvm.Cond.initialized M'.1.cls).before a0 Z = true) (wc : (Jvm.Cond.code M'.1 M'.2.1 M'.2.2.1 M'.2.2.2).before a0 Z = true)
    (hf : fnd tb pc = some (.invokevirtual index, 3)) (hst : st = argsL.reverse ++ .ref a :: rest) (hy : noH M'.1) (hd : parseMethodDescriptor M'.1.desc = some ⟨ps, rt⟩) (hlen : argsL.length = ps.length) (hsz : Ls.size = M.2.2.1) (hfr : rm.frames + 1 ≤ R.frames) (hl : (rest.map fun v => v.category).sum + (M'.2.2.1 + 11) + rm.locals ≤ R.locals) (hce : k + rm.cells ≤ R.cells) (hsl : n + rm.slots ≤ R.slots) (hW : ∀ a ∈ W', a ∈ W)
    (K : ∀ v h', Q' v h' → h.size ≤ h'.size → Wx l Z EL M R h' W (k + rm.cells) (n + rm.slots) (pc + 3) Ls (v.toList ++ rest) Q) : Wx l Z EL M R h W k n pc Ls st Q := by
  subst hst
  refine Wp.call C hEL wc wz hfr hl hce hsl hW (fun {p e s vm0 m args below meth c T locs Pre Post} hc X eT hZ hown hB hpre => ?_) K
  obtain ⟨cell, hcell, hobj⟩ := E.cell
  exact X.privateBackS hc.1 (y := M'.1) (bytes := M'.2.1) (maxL := M'.2.2.1) (ret := M'.2.2.2) hown (mvT (s := s.setVm vm0) hZ w1) (mvT (s := s.setVm vm0) hZ w2) (mvT (s := s.setVm vm0) hZ ws) (Cond.privateMethod_at (mvP (s := s.setVm vm0) (args := args) hZ wp)) (mvT (s := s.setVm vm0) hZ wc) hy hB (g := mkF m pc Ls (argsL.reverse ++ .ref a :: rest)) rfl (by rw [hc.2.2.1]; exact hsz) (Steps.refl _) (a := a) (cell := cell) (by rw [eT]; exact hcell) hobj (argsL := argsL) (rest := rest) (lenOf hd hlen) rfl (by show 2 * 0 + _ ≤ _; simp) (by rw [hc.2.1]; exact fnd_ok ok hf) hpre
/-- Object.<init> -/
theorem Wp.initO (ok : TabOk M.2.1 tb) {index : Nat} {a : Addr} {rest : List Value} (w1 : (Jvm.Cond.methodLink M.1.cls index Lib.objectInit).before a0 Z = true) (w2 : (Jvm.Cond.instanceMethod Lib.objectInit).before a0 Z = true) (w3 : (Jvm.Cond.code Lib.objectInit ⟨#[0xb1]⟩ 1 none).before a0 Z = true) (hf : fnd tb pc = some (.invokespecial index, 3)) (hst : st = .ref a :: rest) (hsz : Ls.size = M.2.2.1) (hfr : 1 ≤ R.frames) (hl : (rest.map fun v => v.category).sum + 12 ≤ R.locals)
    (K : Wx l Z EL M R h W k n (pc + 3) Ls rest Q) : Wx l Z EL M R h W k n pc Ls st Q := by
  subst hst
  refine Wp.stay (fun {p e s m args below meth c T locs} hc X eT hZ hown => ?_) K
  exact RoadKit.initO X hc.1 hZ hown w1 w2 w3 eT (g := mkF m pc Ls (.ref a :: rest)) rfl (by rw [hc.2.2.1]; exact hsz) rfl (by rw [hc.2.1]; exact fnd_ok ok hf) hfr (W := (rest.map fun v => v.category).sum) (by show 2 * 0 + _ ≤ _; simp) hl
/-! ### the heap's single steps -/
theorem Wp.new (ok : TabOk M.2.1 tb) {index ni : Nat} {cC : String} (w : (Jvm.Cond.classLink M.1.cls index cC).before a0 Z = true) (wi : (Jvm.Cond.instantiable cC ni).before a0 Z = true) (wz : (Jvm.Cond.initialized cC).before a0 Z = true) (hf : fnd tb pc = some (.new index, 3)) (hc : k + 1 ≤ R.cells) (hl : n + ni ≤ R.slots)
    (K : ∀ h', Ext h h' → Exa Z h' h.size cC → (∀ {O nm d : String} {ty : FieldType}, Laid Z a0 cC O nm d → parseFieldDescriptor d = some ty → Fld Z h' h.size O nm d (defaultValue ty)) → Wx l Z EL M R h' (h.size :: W) (k + 1) (n + ni) (pc + 3) Ls (.ref h.size :: st) Q) : Wx l Z EL M R h W k n pc Ls st Q := by
  refine Wp.grow (P := fun h' => Exa Z h' h.size cC ∧ ∀ {O nm d : String} {ty : FieldType}, Laid Z a0 cC O nm d → parseFieldDescriptor d = some ty → Fld Z h' h.size O nm d (defaultValue ty)) hc hl (fun _ q => q.1.lt) (fun {p e s m args below meth c T locs} hx X eT hZ hown => ?_) (fun h' E q => K h' E q.1 q.2)
  obtain ⟨T2, h2, X2, e2, E2, A2, D2, -, st2⟩ := newO X hx.1 hZ hown w wi wz eT (g := mkF m pc Ls st) rfl (by rw [hx.2.1]; exact fnd_ok ok hf) hc hl
  exact ⟨T2, h2, X2, e2, E2, ⟨A2, D2⟩, st2⟩
theorem Wp.getF (ok : TabOk M.2.1 tb) {index : Nat} {R0 O nm d : String} {a : Addr} {v : Value} {rest : List Value} (F : Fld Z h a O nm d v) (w : (Jvm.Cond.fieldLink M.1.cls index R0 nm d).before a0 Z = true) (via : Via Z R0 O nm d) (hf : fnd tb pc = some (.getfield index, 3)) (hst : st = .ref a :: rest) (K : Wx l Z EL M R h W k n (pc + 3) Ls (v :: rest) Q) : Wx l Z EL M R h W k n pc Ls st Q := by
  subst hst
  refine Wp.stay (fun {p e s m args below meth c T locs} hc X eT hZ hown => ?_) K
  exact RoadKit.getF X hc.1 hZ hown (host := "") (Or.inl w) via eT F (g := mkF m pc Ls (.ref a :: rest)) rfl rfl (by rw [hc.2.1]; exact fnd_ok ok hf)
theorem Wp.getS (ok : TabOk M.2.1 tb) {index : Nat} {R0 O nm d : String} {v : Value} (F : Sta Z Z.heap O nm d v) (w : (Jvm.Cond.fieldLink M.1.cls index R0 nm d).before a0 Z = true) (via : Via Z R0 O nm d) (hf : fnd tb pc = some (.getstatic index, 3)) (K : Wx l Z EL M R h W k n (pc + 3) Ls (v :: st) Q) : Wx l Z EL M R h W k n pc Ls st Q := by
  refine Wp.old fun hX => Wp.stay (fun {p e s m args below meth c T locs} hc X eT hZ hown => ?_) K
  exact RoadKit.getS (host := "") X hc.1 hZ hown w via eT (F.ext hX) (g := mkF m pc Ls st) rfl (by rw [hc.2.1]; exact fnd_ok ok hf)
theorem Wp.putF (ok : TabOk M.2.1 tb) {index ni : Nat} {R0 O nm d cC : String} {ty : FieldType} {a : Addr} {v old : Value} {rest : List Value} (F : Fld Z h a O nm d old) (E : Exa Z h a cC) (ha : a ∈ W) (w : (Jvm.Cond.fieldLink M.1.cls index R0 nm d).before a0 Z = true) (via : Via Z R0 O nm d) (L : (Jvm.Cond.lays cC O nm d).before a0 Z = true ∨ ((Jvm.Cond.laysFinal cC O nm d).before a0 Z = true ∧ M.1.cls = O ∧ M.1.name = "<init>")) (wi : (Jvm.Cond.instantiable cC ni).before a0 Z = true) (hty : parseFieldDescriptor d = some ty) (hfit : fits ty v = true) (hf : fnd tb pc = some (.putfield index, 3)) (hst : st = v :: .ref a :: rest)
    (K : ∀ h', Wr h h' a (RoadKit.slotOf Z O nm d) v → Wx l Z EL M R h' W k n (pc + 3) Ls rest Q) : Wx l Z EL M R h W k n pc Ls st Q := by
  subst hst
  refine Wp.wr ha (fun {p e s m args below meth c T locs} hc X eT hZ hown => ?_) K
  exact RoadKit.putF X hc.1 hZ hown (host := "") (Or.inl w) via eT F E (L.imp id fun q => ⟨q.1, q.2.1, by rw [hc.2.2.2.2.2]; exact q.2.2⟩) wi hty (narrow_of_fits hfit) hfit (g := mkF m pc Ls (v :: .ref a :: rest)) rfl rfl (by rw [hc.2.1]; exact fnd_ok ok hf)
theorem Wp.cast (ok : TabOk M.2.1 tb) {index : Nat} {K0 : String} {a : Addr} {rest : List Value} (F : Ins Z h a K0 true) (w : (Jvm.Cond.classLink M.1.cls index K0).before a0 Z = true) (hf : fnd tb pc = some (.checkcast index, 3)) (hst : st = .ref a :: rest) (K : Wx l Z EL M R h W k n (pc + 3) Ls (.ref a :: rest) Q) : Wx l Z EL M R h W k n pc Ls st Q := by
  subst hst
  refine Wp.stay (fun {p e s m args below meth c T locs} hc X eT hZ hown => ?_) K
  exact castY X hc.1 hZ hown w eT F (g := mkF m pc Ls (.ref a :: rest)) rfl rfl (by rw [hc.2.1]; exact fnd_ok ok hf)
theorem Wp.inst (ok : TabOk M.2.1 tb) {index : Nat} {K0 : String} {a : Addr} {rest : List Value} (F : Ins Z h a K0 true) (w : (Jvm.Cond.classLink M.1.cls index K0).before a0 Z = true) (hf : fnd tb pc = some (.instanceof index, 3)) (hst : st = .ref a :: rest) (K : Wx l Z EL M R h W k n (pc + 3) Ls (.int 1 :: rest) Q) : Wx l Z EL M R h W k n pc Ls st Q := by
  subst hst
  refine Wp.stay (fun {p e s m args below meth c T locs} hc X eT hZ hown => ?_) K
  exact instY X hc.1 hZ hown w eT F (g := mkF m pc Ls (.ref a :: rest)) rfl rfl (by rw [hc.2.1]; exact fnd_ok ok hf)
theorem Wp.ldcI (ok : TabOk M.2.1 tb) {index : Nat} {v : Int32} (w : (Jvm.Cond.constant M.1.cls index v).before a0 Z = true) (hf : fnd tb pc = some (.ldc index, 2)) (K : Wx l Z EL M R h W k n (pc + 2) Ls (.int v :: st) Q) : Wx l Z EL M R h W k n pc Ls st Q := by
  refine Wp.stay (fun {p e s m args below meth c T locs} hc X eT hZ hown => ?_) K
  exact ⟨T, X, eT, X.ldcInt hc.1 hown (mv hZ w) (g := mkF m pc Ls st) rfl (by rw [hc.2.1]; exact fnd_ok ok hf)⟩
theorem Wp.ldcL (ok : TabOk M.2.1 tb) {index : Nat} {v : Int64} (w : (Jvm.Cond.constantLong M.1.cls index v).before a0 Z = true) (hf : fnd tb pc = some (.ldc2_w index, 3)) (K : Wx l Z EL M R h W k n (pc + 3) Ls (.long v :: st) Q) : Wx l Z EL M R h W k n pc Ls st Q := by
  refine Wp.stay (fun {p e s m args below meth c T locs} hc X eT hZ hown => ?_) K
  exact ⟨T, X, eT, X.ldc2Long hc.1 hown (mv hZ w) (g := mkF m pc Ls st) rfl (by rw [hc.2.1]; exact fnd_ok ok hf)⟩
/-! ### arrays: a list of values -/
def Ar (Z : State) (h : Heap) (a : Addr) (ty : FieldType) (vs : List Value) : Prop := ∃ c : Cell, Arr Z h a c ty ∧ c.slots = vs.toArray ∧ vs.length < 2 ^ 31 ∧ (∀ v ∈ vs, fits ty v = true) ∧ (ty = .byte → Z.vm.findClass "[B" = some c.cls)
theorem Ar.lt {a : Addr} {ty : FieldType} {vs : List Value} (A : Ar Z h a ty vs) : a < h.size := by obtain ⟨c, B, -⟩ := A; exact B.lt
theorem Ar.len {a : Addr} {ty : FieldType} {vs : List Value} (A : Ar Z h a ty vs) : vs.length < 2 ^ 31 := by obtain ⟨c, B, -, q, -⟩ := A; exact q
theorem Ar.ext {a : Addr} {ty : FieldType} {vs : List Value} {h' : Heap} (A : Ar Z h a ty vs) (E : Ext h h') : Ar Z h' a ty vs := by obtain ⟨c, B, r⟩ := A; exact ⟨c, B.ext E, r⟩
theorem Ar.keep {a : Addr} {ty : FieldType} {vs : List Value} {h' : Heap} {ws : List Addr} (A : Ar Z h a ty vs) (K : Keep h h' ws) (q : a ∉ ws) : Ar Z h' a ty vs := by obtain ⟨c, B, r⟩ := A; exact ⟨c, ⟨K.2.1 a c B.1 q, B.2⟩, r⟩
theorem Ar.other {a b : Addr} {ty : FieldType} {vs : List Value} {h' : Heap} {sl : Nat} {v : Value} (A : Ar Z h a ty vs) (Wr' : Wr h h' b sl v) (q : a ≠ b) : Ar Z h' a ty vs := by obtain ⟨c, B, r⟩ := A; exact ⟨c, B.other Wr' q, r⟩
theorem Ar.set {a : Addr} {ty : FieldType} {vs : List Value} {h' : Heap} {sl : Nat} {v : Value} (A : Ar Z h a ty vs) (hv : fits ty v = true) (Wr' : Wr h h' a sl v) : Ar Z h' a ty (vs.set sl v) := by
  obtain ⟨c, B, r1, r2, r3, r4⟩ := A
  refine ⟨c.setSlot sl v, B.same Wr', ?_, by rw [List.length_set]; exact r2, fun x hx => ?_, fun e => r4 e⟩
  · show c.slots.setIfInBounds sl v = _
    rw [r1]; simp
  · rcases List.mem_or_eq_of_mem_set hx with q | q
    · exact r3 _ q
    · rw [q]; exact hv
theorem Ar.arv {a : Addr} {ty : FieldType} {vs : List Value} (A : Ar Z h a ty vs) (d : Value) : ∃ kc, Arv Z h a kc ty (Int32.ofNat vs.length) vs d ∧ (ty = .byte → Z.vm.findClass "[B" = some kc) := by
  obtain ⟨c, B, r1, r2, r3, r4⟩ := A
  have e1 : c.slots.size = vs.length := by rw [r1]; simp
  refine ⟨c.cls, ⟨c, B, rfl, by rw [e1, XT.n32 r2], Int32.ofNat_not_neg r2, fun j hj => ?_, fun j hj => ?_⟩, r4⟩
  · rw [e1] at hj; rw [r1]; simp [hj]
  · rw [e1] at hj; refine r3 _ ?_; simp [hj]
theorem Ar.of_arv {a : Addr} {ty : FieldType} {vs : List Value} {kc : ClassId} {z : Int32} {d : Value} (A : Arv Z h a kc ty z vs d) (hz : z.toNatClampNeg = vs.length) (hB : ty = .byte → Z.vm.findClass "[B" = some kc) : Ar Z h a ty vs := by
  obtain ⟨c, B, ec, e1, hz0, H, G⟩ := A
  have e2 : c.slots.size = vs.length := e1.trans hz
  refine ⟨c, B, ?_, by rw [← hz]; exact (back32 hz0).2, fun v hv => ?_, fun e => by rw [ec]; exact hB e⟩
  · apply Array.ext
    · simpa using e2
    · intro j h1 h2
      have q := H j h1
      have h3 : j < vs.length := by rw [← e2]; exact h1
      rw [Array.getElem?_eq_getElem h1] at q
      simpa [h3] using q
  · obtain ⟨i, hi, rfl⟩ := List.getElem_of_mem hv
    have := G i (by rw [e2]; exact hi)
    simpa [hi] using this
theorem Ar.xt {a : Addr} {ty : FieldType} {vs : List Value} {p : Program} {e : Env} {s : State} {m : MethodId} {args : Array Value} {below : List Frame} {meth : Method} {c : Code} {T : State} {locs : List Loc} (X : Stand p l e R s m args below meth c T locs k n) (eT : T.heap = h) (hZ : Z.Warmed39 s.vm) (A : Ar Z h a ty vs) : ∃ cl, Jvm.Free.XT.Arr ty a cl T ∧ cl.slots = vs.toArray ∧ Arr Z h a cl ty := by
  obtain ⟨cl, B, r1, r2, r3⟩ := A
  have hU : Z.Warmed39 T.vm := wtrans hZ X.warmed
  exact ⟨cl, ⟨by rw [eT]; exact B.1, State.isArrayOf_alike hU.alike B.2.1, B.2.2, by rw [r1]; simpa using r2⟩, r1, B⟩
theorem Wp.alen (ok : TabOk M.2.1 tb) {a : Addr} {ty : FieldType} {vs : List Value} {rest : List Value} (A : Ar Z h a ty vs) (hf : fnd tb pc = some (.arraylength, 1)) (hst : st = .ref a :: rest) (K : Wx l Z EL M R h W k n (pc + 1) Ls (.int (Int32.ofNat vs.length) :: rest) Q) : Wx l Z EL M R h W k n pc Ls st Q := by
  subst hst
  refine Wp.stay (fun {p e s m args below meth c T locs} hc X eT hZ hown => ?_) K
  obtain ⟨cl, A1, e1, -⟩ := A.xt X eT hZ
  refine ⟨T, X, eT, fun target q => X.alen hc.1 A1 (g := mkF m pc Ls (.ref a :: rest)) rfl rfl (by rw [hc.2.1]; exact fnd_ok ok hf) ?_⟩
  rw [e1]; simpa using q
theorem Wp.aget (ok : TabOk M.2.1 tb) {a : Addr} {ty : FieldType} {vs : List Value} {j : Int32} {i : Nat} {v : Value} {rest : List Value} {ins : Instr} (A : Ar Z h a ty vs) (hj : j = Int32.ofNat i) (hv : vs[i]? = some v) (hf : fnd tb pc = some (ins, 1)) (hins : ins = XT.loadOf ty) (hst : st = .int j :: .ref a :: rest) (K : Wx l Z EL M R h W k n (pc + 1) Ls (v :: rest) Q) : Wx l Z EL M R h W k n pc Ls st Q := by
  subst hst hins
  refine Wp.stay (fun {p e s m args below meth c T locs} hc X eT hZ hown => ?_) K
  obtain ⟨cl, A1, e1, -⟩ := A.xt X eT hZ
  exact ⟨T, X, eT, fun target q => X.aget hc.1 A1 hj (by rw [e1]; simpa using hv) (g := mkF m pc Ls (.int j :: .ref a :: rest)) rfl rfl (by rw [hc.2.1]; exact fnd_ok ok hf) q⟩
theorem wr_of_put {a : Addr} {cl : Cell} {i : Nat} {v : Value} {T T' : State} {ty : FieldType} (A : Arr Z T.heap a cl ty) (hi : i < cl.slots.size) (P : Jvm.Free.XT.Put a (cl.setSlot i v) T T') : Wr T.heap T'.heap a i v := by
  refine ⟨cl, A.1, A.plain, hi, ?_⟩
  obtain ⟨p1, p2, p3⟩ := P
  apply Array.ext_getElem?
  intro y
  by_cases q : y = a
  · subst q; rw [p1]; simp [(Array.getElem?_eq_some_iff.mp A.1).1]
  · rw [p2 y q, Array.getElem?_setIfInBounds_ne (Ne.symm q)]
theorem Wp.aput (ok : TabOk M.2.1 tb) {a : Addr} {ty : FieldType} {vs : List Value} {j : Int32} {i : Nat} {v : Value} {rest : List Value} {ins : Instr} (A : Ar Z h a ty vs) (ha : a ∈ W) (hj : j = Int32.ofNat i) (hi : i < vs.length) (hp : ty.isReference = false) (hfit : fits ty v = true) (hf : fnd tb pc = some (ins, 1)) (hins : ins = XT.storeOf ty) (hst : st = v :: .int j :: .ref a :: rest)
    (K : ∀ h', Wr h h' a i v → Ar Z h' a ty (vs.set i v) → Wx l Z EL M R h' W k n (pc + 1) Ls rest Q) : Wx l Z EL M R h W k n pc Ls st Q := by
  subst hst hins
  refine Wp.wr (sl := i) (v := v) ha (fun {p e s m args below meth c T locs} hc X eT hZ hown => ?_) (fun h' w => K h' w (A.set hfit w))
  obtain ⟨cl, A1, e1, A2⟩ := A.xt X eT hZ
  have hi' : i < cl.slots.size := by rw [e1]; simpa using hi
  obtain ⟨T', X', P, stp⟩ := X.aput hc.1 A1 hj hi' hp hfit (g := mkF m pc Ls (v :: .int j :: .ref a :: rest)) rfl rfl (by rw [hc.2.1]; exact fnd_ok ok hf)
  exact ⟨T', _, X', rfl, by rw [← eT]; rw [← eT] at A2; exact wr_of_put A2 hi' P, stp⟩
theorem Wp.newP (ok : TabOk M.2.1 tb) {aty : ArrayType} {z : Int32} {len cap : Nat} {rest : List Value} (w : (Jvm.Cond.arrayClass (newarray.typeOf aty)).before a0 Z = true) (hf : fnd tb pc = some (.newarray aty, 2)) (hst : st = .int z :: rest) (hz : z = Int32.ofNat len) (hcap : len ≤ cap) (hb : cap * 8 ≤ 536870912) (hc : k + 1 ≤ R.cells) (hl : n + cap ≤ R.slots)
    (K : ∀ h', Ext h h' → Ar Z h' h.size (newarray.typeOf aty) (List.replicate len (defaultValue (newarray.typeOf aty))) → Wx l Z EL M R h' (h.size :: W) (k + 1) (n + cap) (pc + 2) Ls (.ref h.size :: rest) Q) : Wx l Z EL M R h W k n pc Ls st Q := by
  subst hst hz
  have h31 : len < 2 ^ 31 := by omega
  have e1 : (Int32.ofNat len).toNatClampNeg = len := XT.n32 h31
  refine Wp.grow (P := fun h' => Ar Z h' h.size (newarray.typeOf aty) (List.replicate len (defaultValue (newarray.typeOf aty)))) hc hl (fun _ q => q.lt) (fun {p e s m args below meth c T locs} hx X eT hZ hown => ?_) K
  obtain ⟨T2, h2, cA, X2, e2, E2, A2, EX2, st2⟩ := newPE X hx.1 hZ w eT (g := mkF m pc Ls (.int (Int32.ofNat len) :: rest)) rfl (by rw [hx.2.1]; exact fnd_ok ok hf) rfl (Int32.ofNat_not_neg h31) (by rw [e1]; exact hcap) hb hc hl rfl
  refine ⟨T2, h2, X2, e2, E2, ⟨_, A2, ?_, by simpa using h31, fun v hv => ?_, fun e => ?_⟩, st2⟩
  · simp [newA, e1]
  · rw [(List.mem_replicate.mp hv).2]; cases aty <;> rfl
  · obtain ⟨c2, k2, x1, x2, -⟩ := EX2
    cases A2.1.symm.trans x1
    rw [e] at x2; exact x2
/-! ### leaving -/
theorem Wp.leave {v : Option Value} (hv : M.2.2.2 = none → v = none) (hs : ∀ {p : Program} {e : Env} {s : State} {m : MethodId} {args : Array Value} {below : List Frame} {meth : Method} {c : Code} {T : State} {locs : List Loc} {fs : List Frame}, Cx M p meth c → Stand p l e R s m args below meth c T locs k n → (∀ (f : JFrame) (acts : List Action), f.method = m → f.locked = none → f.entered = [] → (doReturn e (T.setTop f) acts v).1 = T.setFrames fs) → Steps p.tables e below (T.setTop (mkF m pc Ls st)) (T.setFrames fs))
    (K : Q v h W) : Wx l Z EL M R h W k n pc Ls st Q := by
  intro p e s m args below meth c hc T vm0 H
  obtain ⟨locs, k0, X, eT, hS, hk, hZ, hown, hC, hN, hO, q1, q2, hX, hWH, a1, hEL⟩ := H
  obtain ⟨fs, hr, hrun, hended, hW1, hW2, hW3, hW4⟩ := X.leaveW hS (by rw [eT]; exact hk) (v := v) (fun q => hv (hc.2.2.2.1 ▸ q)) hc.2.2.2.2.1
  have C2 : CHr Z EL s.vm s.heap (T.setFrames fs).vm (T.setFrames fs).heap := by
    have := hC.trans (CHv.at X hZ hEL hC.1)
    rw [← eT] at this; exact this
  have O2 : Own Z EL (T.setFrames fs).vm (T.setFrames fs).heap W := by
    have := Own.later (CHv.at X hZ hEL hC.1) hO
    rw [← eT] at this; exact this
  exact ⟨_, v, locs, W, hs hc X hr, hrun, hended, by rw [← eT] at K; exact K, O2, hN, C2, by rw [← eT] at hX; exact hX, fun q => State.WarmedH.trans (hWH q) X.warmed, hW1, hW2, hW3, hW4.mono q1 q2⟩
theorem Wp.ret0 (ok : TabOk M.2.1 tb) (hret : M.2.2.2 = none) (hf : fnd tb pc = some (.return_, 1)) (hst : st = []) (K : Q none h W) : Wx l Z EL M R h W k n pc Ls st Q := by
  subst hst
  exact Wp.leave (fun _ => rfl) (fun hc X hr => X.returnOut hc.1 (by rw [hc.2.2.2.1]; exact hret) (by rw [hc.2.1]; exact fnd_ok ok hf) hr) K
theorem Wp.retI (ok : TabOk M.2.1 tb) {t : FieldType} {z : Int32} {rest : List Value} (hret : M.2.2.2 = some t) (ht : t = .int ∨ t = .boolean ∨ t = .byte ∨ t = .char ∨ t = .short) (hf : fnd tb pc = some (.ireturn, 1)) (hst : st = .int z :: rest) (hfit : fits t (.int z) = true) (K : Q (some (.int z)) h W) : Wx l Z EL M R h W k n pc Ls st Q := by
  subst hst
  exact Wp.leave (fun q => by rw [hret] at q; cases q) (fun hc X hr => retOut X hc.1 (by rw [hc.2.2.2.1]; exact hret) (narrow_of_fits hfit) (Or.inl ⟨rfl, ht, z, rfl⟩) (by rw [hc.2.1]; exact fnd_ok ok hf) hr) K
theorem Wp.retL (ok : TabOk M.2.1 tb) {z : Int64} {rest : List Value} (hret : M.2.2.2 = some .long) (hf : fnd tb pc = some (.lreturn, 1)) (hst : st = .long z :: rest) (K : Q (some (.long z)) h W) : Wx l Z EL M R h W k n pc Ls st Q := by
  subst hst
  exact Wp.leave (fun q => by rw [hret] at q; cases q) (fun hc X hr => retOut X hc.1 (by rw [hc.2.2.2.1]; exact hret) (rfl : narrow .long (.long z) = .long z) (Or.inr (Or.inl ⟨rfl, rfl, z, rfl⟩)) (by rw [hc.2.1]; exact fnd_ok ok hf) hr) K
theorem Wp.retA (ok : TabOk M.2.1 tb) {t : FieldType} {w : Value} {rest : List Value} (hret : M.2.2.2 = some t) (ht : t.isReference = true) (hw : w.isRef = true) (hf : fnd tb pc = some (.areturn, 1)) (hst : st = w :: rest) (K : Q (some w) h W) : Wx l Z EL M R h W k n pc Ls st Q := by
  subst hst
  have hn : narrow t w = w := by cases w <;> cases t <;> first | rfl | simp_all [Value.isRef, FieldType.isReference]
  exact Wp.leave (fun q => by rw [hret] at q; cases q) (fun hc X hr => retOut X hc.1 (by rw [hc.2.2.2.1]; exact hret) hn (Or.inr (Or.inr (Or.inr (Or.inr ⟨rfl, ht, hw⟩)))) (by rw [hc.2.1]; exact fnd_ok ok hf) hr) K
end Rules
end Jvm.Pilot.@@N@@.Kw
namespace Jvm.Pilot.@@N@@.Kw
open Jvm Jvm.ClassFile Sem Op Lib Jvm.Free Jvm.Stand Jvm.LawKit Jvm.RoadKit Bundle
/-! ## numbers -/
theorem n_lt {i j : Nat} (hi : i < 2 ^ 31) (hj : j < 2 ^ 31) : (Int32.ofNat i < Int32.ofNat j) ↔ i < j := by
  rw [Int32.lt_iff_toInt_lt, Int32.toInt_ofNat_small hi, Int32.toInt_ofNat_small hj]; omega
theorem n_le {i j : Nat} (hi : i < 2 ^ 31) (hj : j < 2 ^ 31) : (Int32.ofNat i ≤ Int32.ofNat j) ↔ i ≤ j := by
  rw [Int32.le_iff_toInt_le, Int32.toInt_ofNat_small hi, Int32.toInt_ofNat_small hj]; omega
theorem n_eq {i j : Nat} (hi : i < 2 ^ 31) (hj : j < 2 ^ 31) : (Int32.ofNat i = Int32.ofNat j) ↔ i = j := by
  rw [← Int32.toInt_inj, Int32.toInt_ofNat_small hi, Int32.toInt_ofNat_small hj]; omega
theorem n_add (i j : Nat) : Int32.ofNat i + Int32.ofNat j = Int32.ofNat (i + j) := (Int32.ofNat_add i j).symm
theorem n_succ (i : Nat) : Int32.ofNat i + 1 = Int32.ofNat (i + 1) := n_add i 1
theorem n_sub {i j : Nat} (q : j ≤ i) : Int32.ofNat i - Int32.ofNat j = Int32.ofNat (i - j) := by
  obtain ⟨d, rfl⟩ := Nat.exists_eq_add_of_le q
  rw [← n_add, Nat.add_sub_cancel_left, Int32.add_comm, Int32.add_sub_cancel]
theorem n_int {i : Nat} (hi : i < 2 ^ 31) : (Int32.ofNat i).toInt = i := Int32.toInt_ofNat_small hi
theorem n_of {x : Int32} (q : 0 ≤ x.toInt) : x = Int32.ofNat x.toInt.toNat ∧ x.toInt.toNat < 2 ^ 31 := by
  have h2 := x.toInt_lt
  have hb : x.toInt.toNat < 2 ^ 31 := by omega
  refine ⟨Int32.toInt_inj.mp ?_, hb⟩
  rw [n_int hb]; omega
theorem mod_n (x : Int32) {d : Nat} (hd : 0 < d) (hd2 : d < 2 ^ 31) : ∃ m, m < d ∧ (x &&& 2147483647) % Int32.ofNat d = Int32.ofNat m := by
  have h0 : 0 ≤ (x &&& 2147483647).toInt := by rw [Int32.and_comm]; exact (c_and' 2147483647 x (by decide)).1
  have e1 := (c_irem (x &&& 2147483647) (Int32.ofNat d) d (n_int hd2)).1 h0
  have h1 : 0 ≤ ((x &&& 2147483647) % Int32.ofNat d).toInt := by rw [e1]; exact Int.emod_nonneg _ (by omega)
  have h2 : ((x &&& 2147483647) % Int32.ofNat d).toInt < d := by rw [e1]; exact Int.emod_lt_of_pos _ (by omega)
  obtain ⟨e2, -⟩ := n_of h1
  exact ⟨_, by omega, e2⟩
theorem andmod_n (x a : Int32) (ha : 0 ≤ a.toInt) {d : Nat} (hd : 0 < d) (hd2 : d < 2 ^ 31) : ∃ m, m < d ∧ (x &&& a) % Int32.ofNat d = Int32.ofNat m := by
  have h0 : 0 ≤ (x &&& a).toInt := by rw [Int32.and_comm]; exact (c_and' a x ha).1
  have e1 := (c_irem (x &&& a) (Int32.ofNat d) d (n_int hd2)).1 h0
  have h1 : 0 ≤ ((x &&& a) % Int32.ofNat d).toInt := by rw [e1]; exact Int.emod_nonneg _ (by omega)
  have h2 : ((x &&& a) % Int32.ofNat d).toInt < d := by rw [e1]; exact Int.emod_lt_of_pos _ (by omega)
  obtain ⟨e2, -⟩ := n_of h1
  exact ⟨_, by omega, e2⟩
/-! ## bytes and chars -/
def Lat (cs : List Int32) : Prop := ∀ c ∈ cs, 0 ≤ c.toInt ∧ c.toInt ≤ 255
abbrev bt (c : Int32) : Value := .int (lo8 c)
abbrev byt (cs : List Int32) : List Value := cs.map bt
theorem fits_bt (c : Int32) : fits .byte (bt c) = true := fits_nar_byte c
theorem lo8_int (c : Int32) : (lo8 c).toInt = (c.toInt).bmod 256 := by
  simp [lo8, Int32.toInt_toInt8]
theorem lo8_and {c : Int32} (q : 0 ≤ c.toInt ∧ c.toInt ≤ 255) : lo8 c &&& 255 = c := by
  obtain ⟨e, hb⟩ := n_of q.1
  have hk : c.toInt.toNat < 256 := by omega
  rw [e]
  generalize c.toInt.toNat = k at hk
  revert k
  decide +kernel
theorem lo8_inj {c d : Int32} (q : 0 ≤ c.toInt ∧ c.toInt ≤ 255) (r : 0 ≤ d.toInt ∧ d.toInt ≤ 255) (e : lo8 c = lo8 d) : c = d := by
  rw [← lo8_and q, e, lo8_and r]
theorem byt_inj : ∀ {cs ds : List Int32}, Lat cs → Lat ds → byt cs = byt ds → cs = ds
  | [], [], _, _, _ => rfl
  | [], _ :: _, _, _, e => by simp at e
  | _ :: _, [], _, _, e => by simp at e
  | c :: cs, d :: ds, hc, hd, e => by
    simp only [byt, List.map_cons, List.cons.injEq, bt, Value.int.injEq] at e
    rw [lo8_inj (hc c (List.mem_cons_self ..)) (hd d (List.mem_cons_self ..)) e.1, byt_inj (fun x hx => hc x (List.mem_cons_of_mem _ hx)) (fun x hx => hd x (List.mem_cons_of_mem _ hx)) e.2]
theorem c16_lat {c : Int32} (q : 0 ≤ c.toInt ∧ c.toInt ≤ 255) : c16 c = c := by
  obtain ⟨e, hb⟩ := n_of q.1
  have hk : c.toInt.toNat < 256 := by omega
  rw [e]
  generalize c.toInt.toNat = k at hk
  revert k
  decide +kernel
theorem fitc {c : Int32} (q : 0 ≤ c.toInt ∧ c.toInt ≤ 255) : fits .char (.int c) = true := by
  simp only [fits, Bool.and_eq_true, decide_eq_true_eq, Int32.le_iff_toInt_le, show (0 : Int32).toInt = 0 from by decide, show (65535 : Int32).toInt = 65535 from by decide]; omega
theorem shr0 (x : Int32) : x >>> ((0 : Int32) &&& 31) = x := by
  show x >>> (0 : Int32) = x
  exact Int32.shiftRight_zero
theorem and255 (x : Int32) : 0 ≤ (x &&& 255).toInt ∧ (x &&& 255).toInt ≤ 255 := by
  have := c_and' 255 x (by decide); rw [Int32.and_comm]; exact ⟨this.1, this.2⟩
theorem latD {cs : List Int32} (q : (cs.all fun c => decide (0 ≤ c.toInt ∧ c.toInt ≤ 255)) = true) : Lat cs := fun c hc => of_decide_eq_true (List.all_eq_true.mp q c hc)
theorem Lat.nil : Lat [] := fun _ q => nomatch q
theorem Lat.cons {c : Int32} {cs : List Int32} (q : 0 ≤ c.toInt ∧ c.toInt ≤ 255) (r : Lat cs) : Lat (c :: cs) := fun x hx => by
  rcases List.mem_cons.mp hx with rfl | hx
  · exact q
  · exact r x hx
theorem Lat.sub {cs ds : List Int32} (L : Lat cs) (q : ∀ x ∈ ds, x ∈ cs) : Lat ds := fun c hc => L c (q c hc)
theorem Lat.at {cs : List Int32} (L : Lat cs) {i : Nat} {c : Int32} (q : cs[i]? = some c) : 0 ≤ c.toInt ∧ c.toInt ≤ 255 := L c (List.mem_of_getElem? q)
abbrev SN : String := "java/lang/String"
/-- a String of the chars cs, all below 256, compact -/
def Str (Z : State) (h : Heap) (a : Addr) (cs : List Int32) : Prop := Lat cs ∧ Exa Z h a "java/lang/String" ∧ Fld Z h a "java/lang/String" "coder" "B" (.int 0) ∧ ∃ b, Fld Z h a "java/lang/String" "value" "[B" (.ref b) ∧ Ar Z h b .byte (byt cs)
/-- x is a's own cell or its array's -/
def Foot (Z : State) (h : Heap) (a x : Addr) : Prop := x = a ∨ Fld Z h a "java/lang/String" "value" "[B" (.ref x)
section
variable {l : Launch} {Z : State} {EL : List (String × Nat)} {M : Mth} {R : Room} {h h' : Heap} {W : List Addr} {k n pc : Nat} {Ls : Array Slot} {st : List Value} {Q : Option Value → Heap → List Addr → Prop} {a0 : Array Value} {tb : Tab} {a b x : Addr} {cs : List Int32} {ws : List Addr}
theorem Fld.uniq {C nm d : String} {v w : Value} (F : Fld Z h a C nm d v) (G : Fld Z h a C nm d w) : v = w := by
  obtain ⟨cell, cf, k, i, f, h1, h2, -, -, -, -, h7⟩ := F
  obtain ⟨cell', cf', k', i', f', g1, g2, -, -, -, -, g7⟩ := G
  cases h1.symm.trans g1
  cases h2.symm.trans g2
  exact Option.some.inj (h7.symm.trans g7)
theorem Str.lat (S : Str Z h a cs) : Lat cs := S.1
theorem Str.exa (S : Str Z h a cs) : Exa Z h a "java/lang/String" := S.2.1
theorem Str.cod (S : Str Z h a cs) : Fld Z h a "java/lang/String" "coder" "B" (.int 0) := S.2.2.1
theorem Str.val (S : Str Z h a cs) : ∃ b, Fld Z h a "java/lang/String" "value" "[B" (.ref b) ∧ Ar Z h b .byte (byt cs) := S.2.2.2
theorem Str.lt (S : Str Z h a cs) : a < h.size := S.2.1.lt
theorem Str.len (S : Str Z h a cs) : cs.length < 2 ^ 31 := by obtain ⟨b, -, A⟩ := S.val; simpa using A.len
theorem Str.ext (S : Str Z h a cs) (E : Ext h h') : Str Z h' a cs := by
  obtain ⟨q1, q2, q3, b, q4, q5⟩ := S
  exact ⟨q1, q2.ext E, q3.ext E, b, q4.ext E, q5.ext E⟩
theorem Str.keep (S : Str Z h a cs) (K : Keep h h' ws) (q : ∀ x ∈ ws, ¬ Foot Z h a x) : Str Z h' a cs := by
  obtain ⟨q1, q2, q3, b, q4, q5⟩ := S
  have na : a ∉ ws := fun z => q a z (Or.inl rfl)
  have nb : b ∉ ws := fun z => q b z (Or.inr q4)
  exact ⟨q1, q2.keep K, q3.keep K na, b, q4.keep K na, q5.keep K nb⟩
theorem Str.foot_lt (S : Str Z h a cs) (F : Foot Z h a x) : x < h.size := by
  obtain ⟨q1, q2, q3, b, q4, q5⟩ := S
  rcases F with rfl | F
  · exact q2.lt
  · cases Fld.uniq F q4; exact q5.lt
theorem Str.nofoot (S : Str Z h a cs) (q : h.size ≤ x) : ¬ Foot Z h a x := fun F => absurd (S.foot_lt F) (Nat.not_lt.mpr q)
theorem Str.foot_ext (S : Str Z h a cs) (E : Ext h h') (q : ¬ Foot Z h a x) : ¬ Foot Z h' a x := fun F => by
  obtain ⟨q1, q2, q3, b, q4, q5⟩ := S
  rcases F with F | F
  · exact q (Or.inl F)
  · cases Fld.uniq F (q4.ext E); exact q (Or.inr q4)
theorem Str.foot_keep (S : Str Z h a cs) (K : Keep h h' ws) (hs : ∀ x ∈ ws, ¬ Foot Z h a x) (q : ¬ Foot Z h a x) : ¬ Foot Z h' a x := fun F => by
  obtain ⟨q1, q2, q3, b, q4, q5⟩ := S
  have na : a ∉ ws := fun z => hs a z (Or.inl rfl)
  rcases F with F | F
  · exact q (Or.inl F)
  · cases Fld.uniq F (q4.keep K na); exact q (Or.inr q4)
/-- an object of another class, or an array that isn't of bytes, is no part of a String -/
theorem Str.foot_exa {C : String} {ni : Nat} (S : Str Z h a cs) (E : Exa Z h x C) (w : (Jvm.Cond.instantiable C ni).before a0 Z = true) (hn : C ≠ "java/lang/String") : ¬ Foot Z h a x := fun F => by
  obtain ⟨q1, q2, q3, b, q4, q5⟩ := S
  rcases F with rfl | F
  · exact ne_exa E q2 hn rfl
  · cases Fld.uniq F q4
    obtain ⟨c, A, -⟩ := q5
    exact ne_arr E w A rfl
theorem arr_ty {c c' : Cell} {t t' : FieldType} (A : Arr Z h a c t) (B : Arr Z h a c' t') : t = t' := by
  cases A.1.symm.trans B.1
  obtain ⟨-, k1, e1, c1, g1⟩ := A.2.1
  obtain ⟨-, k2, e2, c2, g2⟩ := B.2.1
  cases e1.symm.trans e2
  have := g1.symm.trans g2
  injection this
theorem Str.foot_arr {ni : Nat} {t : FieldType} {vs : List Value} (S : Str Z h a cs) (A : Ar Z h x t vs) (w : (Jvm.Cond.instantiable "java/lang/String" ni).before a0 Z = true) (hn : t ≠ .byte) : ¬ Foot Z h a x := fun F => by
  obtain ⟨q1, q2, q3, b, q4, q5⟩ := S
  obtain ⟨c, A, -⟩ := A
  rcases F with rfl | F
  · exact ne_arr q2 w A rfl
  · cases Fld.uniq F q4
    obtain ⟨c', A', -⟩ := q5
    exact hn (arr_ty A A')
theorem wr_keep {sl : Nat} {v : Value} (w : Wr h h' a sl v) : Keep h h' [a] := Keep.of_wr w
theorem keep_ext (E : Ext h h') : Keep h h' [] := (Keep.refl h []).ext E
theorem ext_of_keep0 (K : Keep h h' []) : Ext h h' := ext_keep (ext_refl h) K fun _ q => nomatch q
theorem all1 {P : Addr → Prop} {y : Addr} (q : P y) : ∀ x ∈ [y], P x := allS q all0
/-! ## ldc of a String constant -/
theorem Wp.ldcStr (ok : TabOk M.2.1 tb) {index nn : Nat} {text : String} (cs : List Int32) (w : (Jvm.Cond.stringLink M.1.cls index text).before a0 Z = true) (wS : ∀ a ∈ Bundle.stringAtoms, a.before a0 Z = true) (hEL : EW Z a0 EL) (hmem : (M.1.cls, index) ∈ EL) (ht : (∀ c ∈ text.toList, c.toNat < 256) ∧ text.toList.map (fun c => Value.int (Jvm.Lit.byteI c.toNat.toUInt16)) = byt cs) (hlat : Lat cs) (hlen : cs.length < 2 ^ 31)
    (hf : fnd tb pc = some (.ldc index, 2)) (hn : 4 * text.toList.length ≤ nn) (hbig : nn ≤ 536870912) (hc : k + 2 ≤ R.cells) (hl : n + (nn + 4) ≤ R.slots)
    (K : ∀ a h', Ext h h' → Str Z h' a cs → (∀ x ∈ W, ¬ Foot Z h' a x) → Wx l Z EL M R h' W (k + 2) (n + (nn + 4)) (pc + 2) Ls (.ref a :: st) Q) : Wx l Z EL M R h W k n pc Ls st Q := by
  intro p e s m args below meth c hx T vm0 H
  obtain ⟨locs, k0, X, eT, hS, hk, hZ, hown, hC, hN, hO, q1, q2, hX, hWH, hEL2⟩ := H
  obtain ⟨a, T', h', k1, b, kc, X', eT', E, hS', hk1, hZ', hown', hE, hFc, hFv, hA, -, -, hC2, -, hne, stp⟩ := ldcCH X hx.1 hZ hown w wS eT hS hk hEL hmem hC.1 (vs := byt cs) (z := Int32.ofNat cs.length) ht (Int32.ofNat_not_neg hlen) (by rw [XT.n32 hlen]; simp) (g := mkF m pc Ls st) rfl (by rw [hx.2.1]; exact fnd_ok ok hf) hn hbig hc hl
  have hO' := Own.later hC2 hO
  have hBc : Z.vm.findClass "[B" = some kc := by
    have hal : Z.vm.Alike T'.vm := (show Z.Warmed39 T'.vm from hZ').alike
    obtain ⟨p0, -, u, a', -, q, -, F, e⟩ := Classical.not_not.mp (fun S : Safe Z EL T'.vm h' b => (hne b S).2 rfl)
    obtain ⟨c, hAr, hcc, -⟩ := hA
    rcases e with e | e
    · exfalso
      have ha : h'[q.sa]? = some q.sC := F.ha
      obtain ⟨cS, ⟨-, -, hcS⟩, ⟨kS, k1, k2, -⟩, -⟩ := F
      rw [← e] at ha
      have ec : c = q.sC := Option.some.inj (hAr.1.symm.trans ha)
      obtain ⟨-, ka, e1, comp, g1⟩ := hAr.2.1
      obtain ⟨kz, hkz, ekz⟩ := hal.2.2 _ _ e1
      rw [ec, hcS] at hkz
      have e3 : kz = kS := Option.some.inj (hkz.symm.trans k1)
      rw [← e3, ekz] at k2
      rw [g1] at k2; cases k2
    · have hd : h'[q.sd]? = some q.SA := F.hd
      obtain ⟨cS, -, -, hB, -⟩ := F
      rw [← e] at hd
      have ec : c = q.SA := Option.some.inj (hAr.1.symm.trans hd)
      rw [← hcc, ec, ← hal.findClass]; exact hB
  have S : Str Z h' a cs := ⟨hlat, hE, hFc, b, hFv, Ar.of_arv hA (by rw [XT.n32 hlen]; simp) (fun _ => hBc)⟩
  refine (K a h' E S (fun x hx F => ?_) p e s m args below meth c hx T' T'.vm ⟨locs, k1, X', eT', hS', hk1, hZ', hown', hC.trans hC2, hN, hO', hc, hl, ext_trans hX E, (fun q => by rw [q] at hmem; cases hmem), hEL2⟩).pre stp
  obtain ⟨n1, n2⟩ := hne x (hO' x hx).2.2
  rcases F with F | F
  · exact n1 F
  · cases Fld.uniq F hFv; exact n2 rfl
/-! ## System.arraycopy -/
theorem take_drop (vs : List Value) (d : Value) (i len : Nat) (q : i + len ≤ vs.length) : (List.range len).map (fun j => vs.getD (i + j) d) = (vs.drop i).take len := by
  apply List.ext_getElem
  · simp; omega
  · intro j h1 h2
    simp at h1
    simp [List.getD, List.getElem?_eq_getElem (show i + j < vs.length by omega)]
theorem Wp.acopy (ok : TabOk M.2.1 tb) {index i j len : Nat} {jo jq jn : Int32} {ty : FieldType} {vs vd : List Value} {rest : List Value} (A : Ar Z h a ty vs) (B : Ar Z h b ty vd) (hb : b ∈ W) (hty : refKind ty = false) (ho : jo = Int32.ofNat i) (hq : jq = Int32.ofNat j) (hn : jn = Int32.ofNat len) (h4 : i + len ≤ vs.length) (h5 : j + len ≤ vd.length)
    (w1 : (Jvm.Cond.methodLink M.1.cls index Jvm.Stand.acN).before a0 Z = true) (w2 : (Jvm.Cond.native Jvm.Stand.acN).before a0 Z = true) (w3 : (Jvm.Cond.static Jvm.Stand.acN).before a0 Z = true) (w4 : (Jvm.Cond.initialized "java/lang/System").before a0 Z = true)
    (hf : fnd tb pc = some (.invokestatic index, 3)) (hst : st = .int jn :: .int jq :: .ref b :: .int jo :: .ref a :: rest) (hsz : Ls.size = M.2.2.1) (hfr : 1 ≤ R.frames) (hlo : (rest.map fun v => v.category).sum + (nativeFrameWords "java/lang/System" "arraycopy" 5 + 11) ≤ R.locals)
    (K : ∀ h', Keep h h' [b] → Ar Z h' b ty (vd.take j ++ (vs.drop i).take len ++ vd.drop (j + len)) → Wx l Z EL M R h' W k n (pc + 3) Ls rest Q) : Wx l Z EL M R h W k n pc Ls st Q := by
  subst hst ho hq hn
  intro p e s m args below meth c hc T vm0 H
  obtain ⟨locs, k0, X, eT, hS, hk, hZ, hown, hC, hN, hO, q1, q2, hX, hWH, hEL⟩ := H
  have l1 := A.len
  have l2 := B.len
  obtain ⟨ka, A1, -⟩ := A.arv (.int 0)
  obtain ⟨kb, B1, hBk⟩ := B.arv (.int 0)
  have e1 : (Int32.ofNat i).toNatClampNeg = i := XT.n32 (by omega)
  have e2 : (Int32.ofNat j).toNatClampNeg = j := XT.n32 (by omega)
  have e3 : (Int32.ofNat len).toNatClampNeg = len := XT.n32 (by omega)
  have e4 : (Int32.ofNat vs.length).toNatClampNeg = vs.length := XT.n32 l1
  have e5 : (Int32.ofNat vd.length).toNatClampNeg = vd.length := XT.n32 l2
  obtain ⟨T', h', L, X', eT', N', K', A', stp⟩ := cpA X hc.1 hZ hown w1 w2 w3 w4 eT A1 B1 (us := (vs.drop i).take len) (Or.inl ⟨rfl, hty⟩) (Int32.ofNat_not_neg (by omega)) (Int32.ofNat_not_neg (by omega)) (Int32.ofNat_not_neg (by omega)) (by rw [e1, e3, e4]; exact h4) (by rw [e2, e3, e5]; exact h5) (by rw [e1, e3, take_drop _ _ _ _ h4]) (by rw [e2, e3]; exact h5) hN (hO b hb).1
    (g := mkF m pc Ls (.int (Int32.ofNat len) :: .int (Int32.ofNat j) :: .ref b :: .int (Int32.ofNat i) :: .ref a :: rest)) rfl (by rw [hc.2.2.1]; exact hsz) rfl (by rw [hc.2.1]; exact fnd_ok ok hf) hfr (W := (rest.map fun v => v.category).sum) (by show 2 * 0 + _ ≤ _; simp) hlo
  rw [e2, e3] at A'
  have C2 := CHr.keep K' (allS (hO b hb).2.2 all0) hC.1
  refine (K h' K' (Ar.of_arv A' ?_ hBk) p e s m args below meth c hc T' vm0 ⟨L, k0, X', eT', hS, Nat.le_trans hk K'.1, hZ, hown, hC.trans C2, N', Own.later C2 hO, q1, q2, ext_keep hX K' (allS (hO b hb).1 all0), hWH, hEL⟩).pre stp
  rw [e5]; simp; omega
end
end Jvm.Pilot.@@N@@.Kw
namespace Jvm.Pilot.@@N@@.Kw
open Jvm Jvm.ClassFile Sem Op Lib Jvm.Free Jvm.Stand Jvm.LawKit Jvm.RoadKit Bundle
/-! ## lists -/
theorem fill_step {cs : List Int32} {i : Nat} {c : Int32} (hc : cs[i]? = some c) (d : Value) (hd : d = .int 0) : (byt (cs.take i) ++ List.replicate (cs.length - i) d).set i (bt c) = byt (cs.take (i + 1)) ++ List.replicate (cs.length - (i + 1)) d := by
  have hi : i < cs.length := (List.getElem?_eq_some_iff.mp hc).1
  have e1 : (byt (cs.take i)).length = i := by simp; omega
  have e2 : cs.length - i = (cs.length - (i + 1)) + 1 := by omega
  rw [List.set_append_right _ _ (by rw [e1]; exact Nat.le_refl _), e1, Nat.sub_self, e2, List.replicate_succ, List.set_cons_zero, List.take_add_one, hc]
  simp
theorem list_all {xs ys : List Int32} (hl : xs.length = ys.length) (q : ∀ j, j < xs.length → xs[j]? = ys[j]?) : xs = ys := by
  apply List.ext_getElem? 
  intro j
  by_cases h : j < xs.length
  · exact q j h
  · rw [List.getElem?_eq_none (by omega), List.getElem?_eq_none (by omega)]
theorem Str.uniq {Z : State} {h : Heap} {a : Addr} {cs ds : List Int32} (S : Str Z h a cs) (T : Str Z h a ds) : cs = ds := by
  obtain ⟨q1, q2, q3, b, q4, q5⟩ := S
  obtain ⟨r1, r2, r3, d, r4, r5⟩ := T
  cases Fld.uniq q4 r4
  obtain ⟨c, A, e, -⟩ := q5
  obtain ⟨c', A', e', -⟩ := r5
  cases A.1.symm.trans A'.1
  refine byt_inj q1 r1 ?_
  have := e.symm.trans e'
  simpa using this
end Jvm.Pilot.@@N@@.Kw
namespace Jvm.Pilot.@@N@@.Kw
/-! ## the first place of a char from k on, as indexOf says it -/
def ixF : List Int32 → Int32 → Nat → Int32
  | [], _, _ => -1
  | x :: xs, c, k => if x = c then Int32.ofNat k else ixF xs c (k + 1)
theorem ixF_cons {cs : List Int32} {i : Nat} {x c : Int32} (q : cs[i]? = some x) : ixF (cs.drop i) c i = if x = c then Int32.ofNat i else ixF (cs.drop (i + 1)) c (i + 1) := by
  obtain ⟨hi, e⟩ := List.getElem?_eq_some_iff.mp q
  rw [List.drop_eq_getElem_cons hi, e]; rfl
end Jvm.Pilot.@@N@@.Kw
namespace Jvm.Pilot.@@N@@.Kw
open Jvm Jvm.ClassFile Sem Op Lib Jvm.Free Jvm.Stand Jvm.LawKit Jvm.RoadKit Bundle
/-- an array of known ints, read off the start's words -/
theorem ar_start {Z : State} {args : Array Value} {t : Term} {ty : FieldType} {vs : List Int32} (w0 : (Jvm.Cond.arrayOf t ty).before args Z = true) (w1 : (Jvm.Cond.eq (.length t) (.int (Int32.ofNat vs.length))).before args Z = true) (hl : vs.length < 2 ^ 31)
    (w2 : ∀ k v, vs[k]? = some v → (Jvm.Cond.eq (.elem t (.int (Int32.ofNat k))) (.int v)).before args Z = true) (hfit : ∀ v ∈ vs, fits ty (.int v) = true) (hty : ty ≠ .byte := by intro h; cases h) : ∃ a, t.eval args Z none [] Z = some (.ref a) ∧ Ar Z Z.heap a ty (vs.map .int) := by
  have hlen := Cond.eq_int w1 rfl
  obtain ⟨sd, SA, hev, harrAt, -⟩ := Term.length_spec hlen
  have h31 := SBG.length_lt hev harrAt hlen
  have hsz : SA.slots.size = vs.length := by
    have e : (Term.length t).eval args Z none [] Z = some (.int (Int32.ofNat SA.slots.size)) := by simp [Term.eval, hev, harrAt, h31]
    have h2 : Int32.ofNat SA.slots.size = Int32.ofNat vs.length := by simpa using Option.some.inj (e.symm.trans hlen)
    exact (n_eq h31 hl).mp h2
  obtain ⟨c, A⟩ := Arr.start hev (Cond.before_iff.mp w0)
  have hcell : Z.heap[sd]? = some SA := by
    simp only [State.arrayAt?, Option.bind_eq_bind] at harrAt
    cases q : Z.heap[sd]? with
    | none => simp [q] at harrAt
    | some x => simp only [q, Option.bind_some] at harrAt; grind
  cases hcell.symm.trans A.1
  refine ⟨sd, hev, SA, A, ?_, by simpa using hl, fun v hv => ?_, fun e => absurd e hty⟩
  · apply Array.ext_getElem?
    intro j
    by_cases hj : j < vs.length
    · have e0 : vs[j]? = some vs[j] := List.getElem?_eq_getElem hj
      have e1 := Cond.eq_int (w2 j _ e0) rfl
      rw [SBG.elem_at (ix := .int (Int32.ofNat j)) hev harrAt (by omega) h31 rfl] at e1
      rw [e1]; simp [e0]
    · have e1 : SA.slots[j]? = none := Array.getElem?_eq_none (by rw [hsz]; exact Nat.le_of_not_lt hj)
      have e2 : ((vs.map Value.int).toArray)[j]? = none := Array.getElem?_eq_none (by simpa using Nat.le_of_not_lt hj)
      rw [e1, e2]
  · obtain ⟨x, hx, rfl⟩ := List.mem_map.mp hv
    exact hfit x hx
end Jvm.Pilot.@@N@@.Kw
namespace Jvm.Pilot.@@N@@.Kw
def fx : List Int32 → Int32 → Nat → Option Nat
  | [], _, _ => none
  | x :: xs, c, k => if x = c then some k else fx xs c (k + 1)
theorem ixF_fx (c : Int32) : ∀ (cs : List Int32) (k : Nat), ixF cs c k = match fx cs c k with | some i => Int32.ofNat i | none => -1
  | [], _ => rfl
  | x :: xs, k => by
    unfold ixF fx
    split
    · rfl
    · exact ixF_fx c xs (k + 1)
theorem ixF_some {cs : List Int32} {c : Int32} {k i : Nat} (q : fx cs c k = some i) : ixF cs c k = Int32.ofNat i := by rw [ixF_fx, q]
theorem ixF_none {cs : List Int32} {c : Int32} {k : Nat} (q : fx cs c k = none) : ixF cs c k = -1 := by rw [ixF_fx, q]
theorem fx_spec (c : Int32) : ∀ (cs : List Int32) (k : Nat), (∃ i, fx cs c k = some (k + i) ∧ cs[i]? = some c ∧ ∀ j, j < i → cs[j]? ≠ some c) ∨ (fx cs c k = none ∧ ∀ j : Nat, cs[j]? ≠ some c)
  | [], _ => Or.inr ⟨rfl, fun j => by simp⟩
  | x :: xs, k => by
    by_cases hx : x = c
    · exact Or.inl ⟨0, by unfold fx; rw [if_pos hx]; rfl, by rw [hx]; rfl, fun j hj => absurd hj (Nat.not_lt_zero _)⟩
    · rcases fx_spec c xs (k + 1) with ⟨i, e1, e2, e3⟩ | ⟨e1, e2⟩
      · refine Or.inl ⟨i + 1, by unfold fx; rw [if_neg hx, e1]; congr 1; omega, by simpa using e2, fun j hj => ?_⟩
        cases j with
        | zero => simpa using hx
        | succ j => simpa using e3 j (by omega)
      · refine Or.inr ⟨by unfold fx; rw [if_neg hx, e1], fun j => ?_⟩
        cases j with
        | zero => simpa using hx
        | succ j => simpa using e2 j
theorem fx_drop (c : Int32) (cs : List Int32) (m : Nat) : (∃ i, fx (cs.drop m) c m = some i ∧ m ≤ i ∧ cs[i]? = some c ∧ ∀ j, m ≤ j → j < i → cs[j]? ≠ some c) ∨ (fx (cs.drop m) c m = none ∧ ∀ j, m ≤ j → cs[j]? ≠ some c) := by
  rcases fx_spec c (cs.drop m) m with ⟨i, e1, e2, e3⟩ | ⟨e1, e2⟩
  · refine Or.inl ⟨m + i, e1, by omega, by simpa using e2, fun j h1 h2 => ?_⟩
    have := e3 (j - m) (by omega)
    rw [List.getElem?_drop, show m + (j - m) = j by omega] at this; exact this
  · refine Or.inr ⟨e1, fun j h1 => ?_⟩
    have := e2 (j - m)
    rw [List.getElem?_drop, show m + (j - m) = j by omega] at this; exact this
/-- the first c from k on, in facts -/
theorem fx_of {cs : List Int32} {c : Int32} {o : Nat} (h1 : cs[o]? = some c) (h2 : ∀ j, j < o → cs[j]? ≠ some c) : fx cs c 0 = some o := by
  rcases fx_spec c cs 0 with ⟨i, e1, e2, e3⟩ | ⟨e1, e2⟩
  · rw [e1, Nat.zero_add]
    rcases Nat.lt_trichotomy i o with q | q | q
    · exact absurd e2 (h2 i q)
    · rw [q]
    · exact absurd h1 (e3 o q)
  · exact absurd h1 (e2 o)
theorem fx_no {cs : List Int32} {c : Int32} (h : ∀ j : Nat, cs[j]? ≠ some c) : fx cs c 0 = none := by
  rcases fx_spec c cs 0 with ⟨i, e1, e2, e3⟩ | ⟨e1, e2⟩
  · exact absurd e2 (h i)
  · exact e1
/-- the hash tag's braces: the first '{' and the first '}' behind it, where a char stands between -/
def tg (ks : List Int32) : Option (Nat × Nat) := match fx ks 123 0 with
  | none => none
  | some o => (match fx (ks.drop (o + 1)) 125 (o + 1) with | some c => if o + 1 < c then some (o, c) else none | none => none)
theorem tg_no1 {ks : List Int32} (h : ∀ i : Nat, ks[i]? ≠ some 123) : tg ks = none := by unfold tg; rw [fx_no h]
theorem tg_no3 {ks : List Int32} {o : Nat} (h1 : ks[o]? = some 123) (h2 : ∀ j, j < o → ks[j]? ≠ some 123) (h : ∀ j, o + 1 ≤ j → ks[j]? ≠ some 125) : tg ks = none := by
  unfold tg; rw [fx_of h1 h2]
  rcases fx_drop 125 ks (o + 1) with ⟨i, e1, e2, e3, e4⟩ | ⟨e1, e2⟩
  · exact absurd e3 (h i e2)
  · simp only [e1]
theorem tg_no2 {ks : List Int32} {o : Nat} (h1 : ks[o]? = some 123) (h2 : ∀ j, j < o → ks[j]? ≠ some 123) (h : ks[o + 1]? = some 125) : tg ks = none := by
  unfold tg; rw [fx_of h1 h2]
  rcases fx_drop 125 ks (o + 1) with ⟨i, e1, e2, e3, e4⟩ | ⟨e1, e2⟩
  · simp only [e1]
    rw [if_neg]
    intro q
    exact e4 (o + 1) (Nat.le_refl _) q h
  · simp only [e1]
theorem tg_yes {ks : List Int32} {o j : Nat} (h1 : ks[o]? = some 123) (h2 : ∀ j, j < o → ks[j]? ≠ some 123) (h3 : ks[o + 1]? ≠ some 125) (h4 : o + 1 ≤ j) (h5 : ks[j]? = some 125) : ∃ c, tg ks = some (o, c) := by
  unfold tg; rw [fx_of h1 h2]
  rcases fx_drop 125 ks (o + 1) with ⟨i, e1, e2, e3, e4⟩ | ⟨e1, e2⟩
  · refine ⟨i, ?_⟩
    simp only [e1]
    rw [if_pos]
    rcases Nat.lt_or_eq_of_le e2 with q | q
    · exact q
    · rw [← q] at e3; exact absurd e3 h3
  · exact absurd h5 (e2 j h4)
theorem tg_inv {ks : List Int32} {o c : Nat} (h : tg ks = some (o, c)) : fx ks 123 0 = some o ∧ fx (ks.drop (o + 1)) 125 (o + 1) = some c ∧ o + 1 < c ∧ c < ks.length ∧ o < ks.length ∧ ks[o]? = some 123 ∧ ks[c]? = some 125 ∧ (∀ j, j < o → ks[j]? ≠ some 123) ∧ ∀ j, o + 1 ≤ j → j < c → ks[j]? ≠ some 125 := by
  unfold tg at h
  rcases fx_spec 123 ks 0 with ⟨i, e1, e2, e3⟩ | ⟨e1, e2⟩
  · rw [e1] at h
    rw [Nat.zero_add] at h e1
    rcases fx_drop 125 ks (i + 1) with ⟨d, f1, f2, f3, f4⟩ | ⟨f1, f2⟩
    · simp only [f1] at h
      split at h
      · rename_i q
        simp only [Option.some.injEq, Prod.mk.injEq] at h
        obtain ⟨rfl, rfl⟩ := h
        exact ⟨e1, f1, q, (List.getElem?_eq_some_iff.mp f3).1, (List.getElem?_eq_some_iff.mp e2).1, e2, f3, e3, f4⟩
      · cases h
    · simp only [f1] at h; cases h
  · rw [e1] at h; cases h
/-- where there is no tag: no '{', or no '}' behind it, or it stands right behind -/
theorem tg_none {ks : List Int32} (h : tg ks = none) : fx ks 123 0 = none ∨ ∃ o, fx ks 123 0 = some o ∧ o < ks.length ∧ (fx (ks.drop (o + 1)) 125 (o + 1) = none ∨ fx (ks.drop (o + 1)) 125 (o + 1) = some (o + 1)) := by
  unfold tg at h
  rcases fx_spec 123 ks 0 with ⟨i, e1, e2, e3⟩ | ⟨e1, e2⟩
  · rw [e1] at h
    rw [Nat.zero_add] at h e1
    refine Or.inr ⟨i, e1, (List.getElem?_eq_some_iff.mp e2).1, ?_⟩
    rcases fx_drop 125 ks (i + 1) with ⟨d, f1, f2, f3, f4⟩ | ⟨f1, f2⟩
    · simp only [f1] at h
      split at h
      · cases h
      · rename_i q; exact Or.inr (by rw [f1]; congr 1; omega)
    · exact Or.inl f1
  · exact Or.inl e1
end Jvm.Pilot.@@N@@.Kw
namespace Jvm.Pilot.@@N@@.Kw
open Jvm Jvm.ClassFile Sem Op Lib Jvm.Free Jvm.Stand Jvm.LawKit Jvm.RoadKit Bundle
section Calls3
variable {l : Launch} {Z : State} {EL : List (String × Nat)} {M : Mth} {R : Room} {h : Heap} {W : List Addr} {k n pc : Nat} {Ls : Array Slot} {st : List Value} {Q : Option Value → Heap → List Addr → Prop} {a0 : Array Value} {tb : Tab}
theorem Wp.callS3 (ok : TabOk M.2.1 tb) {M' : Mth} {rm : Room} {index : Nat} {W' : List Addr} {Q' : Option Value → Heap → List Addr → Prop} {argsL rest : List Value} {ps : List FieldType} {rt : Option FieldType} (C : Ct3 l Z EL M' rm argsL.toArray h W' Q') (hEL : EW Z a0 EL) (w1 : (Jvm.Cond.methodLink M.1.cls index M'.1).before a0 Z = true) (w2 : (Jvm.Cond.static M'.1).before a0 Z = true) (wz : (Jvm.Cond.initialized M'.1.cls).before a0 Z = true) (wc : (Jvm.Cond.code M'.1 M'.2.1 M'.2.2.1 M'.2.2.2).before a0 Z = true)
    (hf : fnd tb pc = some (.invokestatic index, 3)) (hst : st = argsL.reverse ++ rest) (hy : noH M'.1) (hd : parseMethodDescriptor M'.1.desc = some ⟨ps, rt⟩) (hlen : argsL.length = ps.length) (hsz : Ls.size = M.2.2.1) (hfr : rm.frames + 1 ≤ R.frames) (hl : (rest.map fun v => v.category).sum + (M'.2.2.1 + 11) + rm.locals ≤ R.locals) (hce : k + rm.cells ≤ R.cells) (hsl : n + rm.slots ≤ R.slots) (hW : ∀ a ∈ W', a ∈ W)
    (K : ∀ v h' Wo, Q' v h' Wo → h.size ≤ h'.size → Wx l Z EL M R h' (Wo ++ W) (k + rm.cells) (n + rm.slots) (pc + 3) Ls (v.toList ++ rest) Q) : Wx l Z EL M R h W k n pc Ls st Q := by
  subst hst
  refine Wp.call3 C hEL wc wz hfr hl hce hsl hW (fun {p e s vm0 m args below meth c T locs Pre Post} hc X eT hZ hown hB hpre => ?_) K
  exact callSS X hc.1 (y := M'.1) (bytes := M'.2.1) (maxL := M'.2.2.1) (ret := M'.2.2.2) hown (mvT (s := s.setVm vm0) hZ w1) (mvT (s := s.setVm vm0) hZ w2) (mvT (s := s.setVm vm0) hZ wz) (mvT (s := s.setVm vm0) hZ wc) hy hB (g := mkF m pc Ls (argsL.reverse ++ rest)) rfl (by rw [hc.2.2.1]; exact hsz) (argsL := argsL) (rest := rest) (lenOf hd hlen) rfl (by show 2 * 0 + _ ≤ _; simp) (by rw [hc.2.1]; exact fnd_ok ok hf) hpre
theorem Wp.clone (ok : TabOk M.2.1 tb) {index cap : Nat} {a : Addr} {vs rest : List Value} (A : Ar Z h a .byte vs)
    (w1 : (Jvm.Cond.methodLink M.1.cls index ⟨"[B", "clone", "()Ljava/lang/Object;"⟩).before a0 Z = true) (w2 : (Jvm.Cond.sameMethod "[B" "java/lang/Object" "clone" "()Ljava/lang/Object;").before a0 Z = true) (w3 : (Jvm.Cond.native ⟨"java/lang/Object", "clone", "()Ljava/lang/Object;"⟩).before a0 Z = true) (w4 : (Jvm.Cond.instanceMethod ⟨"java/lang/Object", "clone", "()Ljava/lang/Object;"⟩).before a0 Z = true) (w5 : (Jvm.Cond.selects "[B" ⟨"[B", "clone", "()Ljava/lang/Object;"⟩ ⟨"java/lang/Object", "clone", "()Ljava/lang/Object;"⟩).before a0 Z = true) (w6 : (Jvm.Cond.castable "[B" "java/lang/Cloneable").before a0 Z = true)
    (hf : fnd tb pc = some (.invokevirtual index, 3)) (hst : st = .ref a :: rest) (hsz : Ls.size = M.2.2.1) (hfr : 1 ≤ R.frames) (hlo : (rest.map fun v => v.category).sum + 14 ≤ R.locals) (hcap : vs.length ≤ cap) (hc : k + 1 ≤ R.cells) (hl : n + cap ≤ R.slots)
    (K : ∀ h', Ext h h' → Ar Z h' h.size .byte vs ∧ Exa Z h' h.size "[B" → Wx l Z EL M R h' (h.size :: W) (k + 1) (n + cap) (pc + 3) Ls (.ref h.size :: rest) Q) : Wx l Z EL M R h W k n pc Ls st Q := by
  subst hst
  obtain ⟨cl, B, r1, r2, r3, r4⟩ := A
  have e2 := r4 rfl
  have hsl : cl.slots.size = vs.length := by rw [r1]; simp
  refine Wp.grow (P := fun h' => Ar Z h' h.size .byte vs ∧ Exa Z h' h.size "[B") hc hl (fun _ q => q.1.lt) (fun {p e s m args below meth c T locs} hx X eT hZ hown => ?_) K
  obtain ⟨c1, cC, g1, g2, g3⟩ := Cond.castable_spec w6
  cases e2.symm.trans g1
  have hal : Z.vm.Alike T.vm := hZ.alike.trans X.warmed.alike
  have FC : FitC Z cl := fitC_of B fun i hi v hv => r3 v (by rw [r1] at hv; exact List.mem_of_getElem? (by simpa using hv))
  obtain ⟨vm', X', st⟩ := X.cloneArray hx.1 hown (mv hZ w1) (mv hZ w2) (mv hZ w3) (mv hZ w4) (mv hZ w5) (a := a) (by rw [eT]; exact B.1) B.2.1.1 B.2.2 (by rw [hZ.alike.findClass]; exact e2) (by rw [hZ.alike.findClass]; exact g2) (by rw [hZ.alike.assignable]; exact g3)
    (fun i v hv => by have q := FC i v hv; rw [← State.fitsSlot_setVm hal] at q; exact q) (g := mkF m pc Ls (.ref a :: rest)) rfl (by rw [hx.2.2.1]; exact hsz) rfl (by rw [hx.2.1]; exact fnd_ok ok hf) hfr (by show 2 * 0 + _ + _ ≤ _; simpa using hlo) hc (by omega)
    (by obtain ⟨-, k2, hk2, comp, hkind⟩ := B.2.1; rw [hZ.alike.clonesLoader]; exact Vm.clonesLoader_of_array hk2 hkind)
  subst eT
  have hN : (T.heap.push (cloneOf cl))[T.heap.size]? = some (cloneOf cl) := by simp
  obtain ⟨hst0, kb, hkb, comp, hkind⟩ := B.2.1
  exact ⟨_, _, X'.more (Nat.le_refl _) (by omega), rfl, ext_of fun a q => Array.getElem?_push_lt q |>.trans (Array.getElem?_eq_getElem q).symm, ⟨⟨cloneOf cl, ⟨hN, ⟨fun _ z => (by cases z), kb, hkb, comp, hkind⟩, fun z => (by cases z)⟩, r1, r2, r3, fun _ => e2⟩, ⟨_, kb, hN, e2, hkb, rfl, fun q => by rw [hkind] at q; cases q⟩⟩, st⟩
end Calls3
/-! ### strings of sixteen-bit chars -/
def W16 (cs : List Int32) : Prop := ∀ c ∈ cs, 0 ≤ c.toInt ∧ c.toInt ≤ 65535
theorem W16.at {cs : List Int32} (L : W16 cs) {i : Nat} {c : Int32} (q : cs[i]? = some c) : 0 ≤ c.toInt ∧ c.toInt ≤ 65535 := L c (List.mem_of_getElem? q)
theorem Lat.w16 {cs : List Int32} (L : Lat cs) : W16 cs := fun c hc => ⟨(L c hc).1, by have := (L c hc).2; omega⟩
def hi8 (c : Int32) : Int32 := lo8 (c >>> ((8 : Int32) &&& 31))
def u16 : List Int32 → List Value
  | [] => []
  | c :: cs => .int (lo8 c) :: .int (hi8 c) :: u16 cs
theorem u16_app : ∀ xs ys : List Int32, u16 (xs ++ ys) = u16 xs ++ u16 ys
  | [], _ => rfl
  | x :: xs, ys => by show _ :: _ :: u16 (xs ++ ys) = _; rw [u16_app xs ys]; rfl
theorem u16_len : ∀ cs : List Int32, (u16 cs).length = 2 * cs.length
  | [] => rfl
  | c :: cs => by show (u16 cs).length + 1 + 1 = _; rw [u16_len cs, List.length_cons]; omega
theorem u16_lo : ∀ (cs : List Int32) (i : Nat) {c : Int32}, cs[i]? = some c → (u16 cs)[2 * i]? = some (.int (lo8 c))
  | [], i, c, h => by simp at h
  | x :: xs, 0, c, h => by cases Option.some.inj h; rfl
  | x :: xs, i + 1, c, h => u16_lo xs i h
theorem u16_hi : ∀ (cs : List Int32) (i : Nat) {c : Int32}, cs[i]? = some c → (u16 cs)[2 * i + 1]? = some (.int (hi8 c))
  | [], i, c, h => by simp at h
  | x :: xs, 0, c, h => by cases Option.some.inj h; rfl
  | x :: xs, i + 1, c, h => u16_hi xs i h
theorem u16_step {cs : List Int32} {i : Nat} {c : Int32} (hc : cs[i]? = some c) : ((u16 (cs.take i) ++ List.replicate (2 * (cs.length - i)) (Value.int 0)).set (2 * i) (.int (lo8 c))).set (2 * i + 1) (.int (hi8 c)) = u16 (cs.take (i + 1)) ++ List.replicate (2 * (cs.length - (i + 1))) (Value.int 0) := by
  have hi : i < cs.length := (List.getElem?_eq_some_iff.mp hc).1
  have e1 : (u16 (cs.take i)).length = 2 * i := by rw [u16_len, List.length_take]; omega
  have e2 : cs.take (i + 1) = cs.take i ++ [c] := by rw [List.take_add_one, hc]; rfl
  have e3 : 2 * (cs.length - i) = 2 * (cs.length - (i + 1)) + 1 + 1 := by omega
  rw [e2, u16_app, e3, List.replicate_succ, List.replicate_succ]
  rw [List.set_append_right _ _ (by omega), e1, Nat.sub_self, List.set_cons_zero, List.set_append_right _ _ (by omega), e1, show 2 * i + 1 - 2 * i = 1 by omega]
  rw [List.append_assoc]; rfl
theorem c16_w {c : Int32} (q : 0 ≤ c.toInt ∧ c.toInt ≤ 65535) : c16 c = c := by
  have h := c_i2c c
  apply Int32.toInt_inj.mp
  show (c.toUInt32.toUInt16.toUInt32.toInt32).toInt = _
  omega
theorem fitw {c : Int32} (q : 0 ≤ c.toInt ∧ c.toInt ≤ 65535) : fits .char (.int c) = true := by
  simp only [fits, Bool.and_eq_true, decide_eq_true_eq, Int32.le_iff_toInt_le, show (0 : Int32).toInt = 0 from by decide, show (65535 : Int32).toInt = 65535 from by decide]; omega
theorem c16_rng (x : Int32) : 0 ≤ (c16 x).toInt ∧ (c16 x).toInt ≤ 65535 := by
  have h := c_i2c x
  have e : (c16 x).toInt = (x.toUInt32.toUInt16.toUInt32.toInt32).toInt := rfl
  omega
theorem n_shl1 {i : Nat} (hi : i < 2 ^ 30) : Int32.ofNat i <<< ((1 : Int32) &&& 31) = Int32.ofNat (2 * i) := by
  have h := c_ishl (Int32.ofNat i) 1 1 (by decide)
  rw [n_int (by omega)] at h
  apply Int32.toInt_inj.mp
  rw [n_int (by omega)]
  have b1 := (Int32.ofNat i <<< ((1 : Int32) &&& 31)).toInt_lt
  have b2 := (Int32.ofNat i <<< ((1 : Int32) &&& 31)).le_toInt
  omega
theorem n_shr1 {i : Nat} (hi : i < 2 ^ 31) : Int32.ofNat i >>> ((1 : Int32) &&& 31) = Int32.ofNat (i / 2) := by
  have h := c_ishr (Int32.ofNat i) 1 1 (by decide)
  rw [n_int hi] at h
  apply Int32.toInt_inj.mp
  rw [n_int (by omega), h]; omega
theorem u_char {c : Int32} (q : 0 ≤ c.toInt ∧ c.toInt ≤ 65535) : c16 (((lo8 c &&& (255 : Int32)) <<< ((0 : Int32) &&& 31)) ||| ((hi8 c &&& (255 : Int32)) <<< ((8 : Int32) &&& 31))) = c := by
  have a1 := c_i2b c
  have a2 := c_mask (lo8 c) 255 8 (by decide) (by decide)
  have a3 := c_ishl (lo8 c &&& 255) 0 0 (by decide)
  have b0 := c_ishr c 8 8 (by decide)
  have b1 := c_i2b (c >>> ((8 : Int32) &&& 31))
  have b2 := c_mask (hi8 c) 255 8 (by decide) (by decide)
  have b3 := c_ishl (hi8 c &&& 255) 8 8 (by decide)
  have e1 : (lo8 c).toInt = c.toInt8.toInt32.toInt := rfl
  have e2 : (hi8 c).toInt = (c >>> ((8 : Int32) &&& 31)).toInt8.toInt32.toInt := rfl
  rw [← e1] at a1
  rw [← e2] at b1
  generalize hA : (lo8 c &&& 255) <<< ((0 : Int32) &&& 31) = A at *
  generalize hB : (hi8 c &&& 255) <<< ((8 : Int32) &&& 31) = B at *
  have A1 := A.toInt_lt
  have A2 := A.le_toInt
  have B1 := B.toInt_lt
  have B2 := B.le_toInt
  have hA2 : A.toInt = c.toInt % 256 := by omega
  have hB2 : B.toInt = 256 * (c.toInt / 256) := by omega
  have o1 := c_or' A B 8 (by decide) 256 (by decide) (by omega) (by omega) (by omega)
  have o2 := (A ||| B).toInt_lt
  have o3 := (A ||| B).le_toInt
  have hO : A ||| B = c := Int32.toInt_inj.mp (by omega)
  rw [hO]; exact c16_w q
def StrU (Z : State) (h : Heap) (a : Addr) (cs : List Int32) : Prop := (W16 cs ∧ 0 < cs.length) ∧ Exa Z h a "java/lang/String" ∧ Fld Z h a "java/lang/String" "coder" "B" (.int 1) ∧ ∃ b, Fld Z h a "java/lang/String" "value" "[B" (.ref b) ∧ Ar Z h b .byte (u16 cs)
theorem StrU.w16 {Z : State} {h : Heap} {a : Addr} {cs : List Int32} (S : StrU Z h a cs) : W16 cs := S.1.1
theorem StrU.pos {Z : State} {h : Heap} {a : Addr} {cs : List Int32} (S : StrU Z h a cs) : 0 < cs.length := S.1.2
theorem StrU.exa {Z : State} {h : Heap} {a : Addr} {cs : List Int32} (S : StrU Z h a cs) : Exa Z h a "java/lang/String" := S.2.1
theorem StrU.cod {Z : State} {h : Heap} {a : Addr} {cs : List Int32} (S : StrU Z h a cs) : Fld Z h a "java/lang/String" "coder" "B" (.int 1) := S.2.2.1
theorem StrU.val {Z : State} {h : Heap} {a : Addr} {cs : List Int32} (S : StrU Z h a cs) : ∃ b, Fld Z h a "java/lang/String" "value" "[B" (.ref b) ∧ Ar Z h b .byte (u16 cs) := S.2.2.2
theorem StrU.ext {Z : State} {h h' : Heap} {a : Addr} {cs : List Int32} (S : StrU Z h a cs) (E : Ext h h') : StrU Z h' a cs := by
  obtain ⟨q1, q2, q3, b, q4, q5⟩ := S
  exact ⟨q1, q2.ext E, q3.ext E, b, q4.ext E, q5.ext E⟩
def StrG (Z : State) (h : Heap) (a : Addr) (cs : List Int32) : Prop := Str Z h a cs ∨ StrU Z h a cs
theorem StrG.exa {Z : State} {h : Heap} {a : Addr} {cs : List Int32} (S : StrG Z h a cs) : Exa Z h a "java/lang/String" := S.elim (fun s => s.exa) (fun s => s.exa)
theorem StrG.w16 {Z : State} {h : Heap} {a : Addr} {cs : List Int32} (S : StrG Z h a cs) : W16 cs := S.elim (fun s => s.lat.w16) (fun s => s.w16)
theorem StrG.ext {Z : State} {h h' : Heap} {a : Addr} {cs : List Int32} (S : StrG Z h a cs) (E : Ext h h') : StrG Z h' a cs := S.elim (fun s => Or.inl (s.ext E)) (fun s => Or.inr (s.ext E))
def U16w (Z : State) : Prop := Sta Z Z.heap "java/lang/StringUTF16" "$assertionsDisabled" "Z" (.int 1) ∧ Sta Z Z.heap "java/lang/StringUTF16" "HI_BYTE_SHIFT" "I" (.int 0) ∧ Sta Z Z.heap "java/lang/StringUTF16" "LO_BYTE_SHIFT" "I" (.int 8)
/-- the first char above 255 -/
def Wide (cs : List Int32) (p : Nat) : Prop := ∃ c, cs[p]? = some c ∧ 255 < c.toInt ∧ ∀ j d, j < p → cs[j]? = some d → d.toInt ≤ 255
theorem lat_or_wide : ∀ {cs : List Int32}, W16 cs → Lat cs ∨ ∃ p, Wide cs p
  | [], _ => Or.inl Lat.nil
  | c :: cs, h => by
    have h0 := h c (List.mem_cons_self ..)
    by_cases q : c.toInt ≤ 255
    · rcases lat_or_wide (cs := cs) (fun x hx => h x (List.mem_cons_of_mem _ hx)) with r | ⟨p, d, e1, e2, e3⟩
      · exact Or.inl (Lat.cons ⟨h0.1, q⟩ r)
      · refine Or.inr ⟨p + 1, d, e1, e2, fun j x hj hx => ?_⟩
        cases j with
        | zero => cases Option.some.inj hx; exact q
        | succ j => exact e3 j x (by omega) hx
    · exact Or.inr ⟨0, c, rfl, by omega, fun j d hj => absurd hj (Nat.not_lt_zero _)⟩
theorem own_or {c d : Jvm.Cond} {args : Array Value} {first s : State} {o : Option Outcome} {idx : List Nat} (h1 : c.value args first o s idx = some false) (h : (Jvm.Cond.or c d).value args first o s idx = some true) : d.value args first o s idx = some true := by
  simpa [Jvm.Cond.value, h1] using h
theorem len_size {Z : State} {args : Array Value} {t : Term} {sd : Addr} {SA : Cell} {m : Nat} (hev : t.eval args Z none [] Z = some (.ref sd)) (harr : Z.arrayAt? sd = some SA) (hlen : (Term.length t).eval args Z none [] Z = some (.int (Int32.ofNat m))) (hm : m < 2 ^ 31) : SA.slots.size = m := by
  have h31 := SBG.length_lt hev harr hlen
  have e : (Term.length t).eval args Z none [] Z = some (.int (Int32.ofNat SA.slots.size)) := by simp [Term.eval, hev, harr, h31]
  have h2 : Int32.ofNat SA.slots.size = Int32.ofNat m := by simpa using Option.some.inj (e.symm.trans hlen)
  exact (n_eq h31 hm).mp h2
end Jvm.Pilot.@@N@@.Kw
namespace Jvm.Pilot.@@N@@.Kw
open Jvm Jvm.ClassFile Sem Op Lib Jvm.Free Jvm.Stand Jvm.LawKit Jvm.RoadKit Bundle
theorem u16_drop : ∀ (cs : List Int32) (o : Nat), (u16 cs).drop (2 * o) = u16 (cs.drop o)
  | _, 0 => rfl
  | [], o + 1 => by simp [u16]
  | c :: cs, o + 1 => u16_drop cs o
theorem u16_take : ∀ (cs : List Int32) (m : Nat), (u16 cs).take (2 * m) = u16 (cs.take m)
  | cs, 0 => by simp [u16]
  | [], m + 1 => by simp [u16]
  | c :: cs, m + 1 => by show _ :: _ :: (u16 cs).take (2 * m) = _; rw [u16_take cs m]; rfl
theorem or_nn {i j m : Nat} (hi : i < 2 ^ 31) (hj : j < 2 ^ 31) (hm : m < 2 ^ 31) : ¬ (Int32.ofNat i ||| Int32.ofNat j ||| Int32.ofNat m) < 0 := by
  have h1 := (c_orS (Int32.ofNat i) (Int32.ofNat j)).1 (by rw [n_int hi]; omega) (by rw [n_int hj]; omega)
  have h2 := (c_orS (Int32.ofNat i ||| Int32.ofNat j) (Int32.ofNat m)).1 h1 (by rw [n_int hm]; omega)
  rw [Int32.lt_iff_toInt_lt, show (0 : Int32).toInt = 0 from by decide]; omega
theorem slice_at {cs : List Int32} {o m i : Nat} {c : Int32} (h : ((cs.drop o).take m)[i]? = some c) : cs[o + i]? = some c := by
  rw [List.getElem?_take] at h
  split at h
  · rw [List.getElem?_drop] at h; exact h
  · cases h
theorem StrG.len {Z : State} {h : Heap} {a : Addr} {cs : List Int32} (S : StrG Z h a cs) : cs.length < 2 ^ 31 := by
  rcases S with S | S
  · exact S.len
  · obtain ⟨b, -, A⟩ := S.val
    have z := A.len
    rw [u16_len] at z; omega
theorem fill_len {cs : List Int32} {i : Nat} {d : Value} (h : i ≤ cs.length) : (byt (cs.take i) ++ List.replicate (cs.length - i) d).length = cs.length := by simp; omega
end Jvm.Pilot.@@N@@.Kw
namespace Jvm.Pilot.@@N@@.Kw
open Jvm Jvm.ClassFile Sem Op Lib Jvm.Free Jvm.Stand Jvm.LawKit Jvm.RoadKit Bundle
/-! ### ints as naturals, modulo 2 ^ 32 -/
theorem nat_mod (y : Nat) : ((Int32.ofNat y).toInt - y) % 4294967296 = 0 := by
  have h : (Int32.ofNat y).toInt = (y : Int).bmod 4294967296 := by simp
  rw [h, Int.bmod_def]; split <;> omega
theorem eq_of_mod {a b : Int32} (h : (a.toInt - b.toInt) % 4294967296 = 0) : a = b := by
  have a1 := a.toInt_lt
  have a2 := a.le_toInt
  have b1 := b.toInt_lt
  have b2 := b.le_toInt
  exact Int32.toInt_inj.mp (by omega)
theorem n_xor (a b : Nat) : Int32.ofNat a ^^^ Int32.ofNat b = Int32.ofNat (a ^^^ b) := by
  have e : ∀ x, (Int32.ofNat x).toBitVec = BitVec.ofNat 32 x := fun _ => rfl
  apply Int32.toBitVec_inj.mp
  rw [Int32.toBitVec_xor, e, e, e]
  apply BitVec.eq_of_toNat_eq
  rw [BitVec.toNat_xor, BitVec.toNat_ofNat, BitVec.toNat_ofNat, BitVec.toNat_ofNat, Nat.xor_mod_two_pow]
theorem n_and (a b : Nat) : Int32.ofNat a &&& Int32.ofNat b = Int32.ofNat (a &&& b) := by
  have e : ∀ x, (Int32.ofNat x).toBitVec = BitVec.ofNat 32 x := fun _ => rfl
  apply Int32.toBitVec_inj.mp
  rw [Int32.toBitVec_and, e, e, e]
  apply BitVec.eq_of_toNat_eq
  rw [BitVec.toNat_and, BitVec.toNat_ofNat, BitVec.toNat_ofNat, BitVec.toNat_ofNat, Nat.and_mod_two_pow]
theorem n_or (a b : Nat) : Int32.ofNat a ||| Int32.ofNat b = Int32.ofNat (a ||| b) := by
  have e : ∀ x, (Int32.ofNat x).toBitVec = BitVec.ofNat 32 x := fun _ => rfl
  apply Int32.toBitVec_inj.mp
  rw [Int32.toBitVec_or, e, e, e]
  apply BitVec.eq_of_toNat_eq
  rw [BitVec.toNat_or, BitVec.toNat_ofNat, BitVec.toNat_ofNat, BitVec.toNat_ofNat, Nat.or_mod_two_pow]
theorem n_shl (y k : Nat) {q : Int32} (hk : q.toBitVec.toNat % 32 = k) : Int32.ofNat y <<< (q &&& 31) = Int32.ofNat (2 ^ k * y) := by
  apply eq_of_mod
  have h := c_ishl (Int32.ofNat y) q k hk
  have h1 := nat_mod y
  have h2 := nat_mod (2 ^ k * y)
  obtain ⟨u, hu⟩ := Int.dvd_of_emod_eq_zero h1
  have e : (Int32.ofNat y).toInt * ((2 ^ k : Nat) : Int) = ((2 ^ k * y : Nat) : Int) + 4294967296 * (u * ((2 ^ k : Nat) : Int)) := by
    have e0 : (Int32.ofNat y).toInt = y + 4294967296 * u := by omega
    rw [e0, Int.add_mul, Int.natCast_mul, Int.mul_comm (y : Int), Int.mul_assoc]
  rw [e] at h
  generalize u * ((2 ^ k : Nat) : Int) = w at h
  omega
theorem n_shr {y k : Nat} (hy : y < 2 ^ 31) {q : Int32} (hk : q.toBitVec.toNat % 32 = k) : Int32.ofNat y >>> (q &&& 31) = Int32.ofNat (y / 2 ^ k) := by
  have h := c_ishr (Int32.ofNat y) q k hk
  rw [n_int hy] at h
  apply Int32.toInt_inj.mp
  rw [h, n_int (Nat.lt_of_le_of_lt (Nat.div_le_self _ _) hy)]
  norm_cast
theorem n_ush {y k : Nat} (hy : y < 2 ^ 31) {q : Int32} (hk : q.toBitVec.toNat % 32 = k) (h0 : 0 < k) : ush (Int32.ofNat y) q = Int32.ofNat (y / 2 ^ k) := by
  have h := c_iushr (Int32.ofNat y) q k hk h0
  rw [n_int hy] at h
  apply Int32.toInt_inj.mp
  rw [n_int (Nat.lt_of_le_of_lt (Nat.div_le_self _ _) hy)]
  show ((Int32.ofNat y).toUInt32 >>> (q &&& 31).toUInt32).toInt32.toInt = _
  rw [h, show (y : Int) % 4294967296 = y by omega]
  norm_cast
/-! ### CRC -/
def bit1 (y : Nat) : Nat := if y &&& 32768 = 0 then 2 * y else (2 * y) ^^^ 4129
def bitN : Nat → Nat → Nat
  | 0, y => y
  | r + 1, y => bitN r (bit1 y)
def crcB : Nat → List Int32 → Nat
  | x, [] => x
  | x, b :: bs => crcB (bitN 8 (x ^^^ (256 * b.toInt.toNat))) bs
def stp (x b : Nat) : Nat :=
  let c := (((x / 256) ||| (256 * x)) &&& 65535) ^^^ b
  let c := c ^^^ ((c &&& 255) / 16)
  let c := c ^^^ ((4096 * c) &&& 65535)
  c ^^^ ((32 * (c &&& 255)) &&& 65535)
theorem bit1_mod (y : Nat) : bit1 y % 65536 = bit1 (y % 65536) % 65536 := by
  have e : (y % 65536) &&& 32768 = y &&& 32768 := by
    rw [show 65536 = 2 ^ 16 from rfl]
    apply Nat.eq_of_testBit_eq
    intro i
    simp only [Nat.testBit_and, Nat.testBit_mod_two_pow, show 32768 = 2 ^ 15 from rfl, Nat.testBit_two_pow]
    by_cases q : 15 = i
    · subst q; simp
    · simp [q]
  unfold bit1
  rw [e]
  split
  · omega
  · rw [show 65536 = 2 ^ 16 from rfl, Nat.xor_mod_two_pow, Nat.xor_mod_two_pow (a := 2 * (y % 2 ^ 16)), Nat.mul_mod 2 (y % 2 ^ 16), Nat.mod_mod, ← Nat.mul_mod]
theorem bitN_mod : ∀ (r y : Nat), bitN r y % 65536 = bitN r (y % 65536) % 65536
  | 0, y => by show y % 65536 = y % 65536 % 65536; rw [Nat.mod_mod]
  | r + 1, y => by
    show bitN r (bit1 y) % 65536 = bitN r (bit1 (y % 65536)) % 65536
    rw [bitN_mod r (bit1 y), bitN_mod r (bit1 (y % 65536)), bit1_mod]
def swp (x : Nat) : Nat := ((x / 256) ||| (256 * x)) &&& 65535
def stF (y : Nat) : Nat :=
  let c := y ^^^ ((y &&& 255) / 16)
  let c := c ^^^ ((4096 * c) &&& 65535)
  c ^^^ ((32 * (c &&& 255)) &&& 65535)
theorem two_xor (a b : Nat) : 2 * (a ^^^ b) = (2 * a) ^^^ (2 * b) := by
  have h : ∀ x : Nat, 2 * x = x <<< 1 := fun x => by rw [Nat.shiftLeft_eq]; omega
  rw [h, h, h, Nat.shiftLeft_xor_distrib]
theorem bit1_alt (y : Nat) : bit1 y = (2 * y) ^^^ (if y.testBit 15 = true then 4129 else 0) := by
  unfold bit1
  have e : y &&& 32768 = if y.testBit 15 = true then 32768 else 0 := by
    apply Nat.eq_of_testBit_eq
    intro i
    rw [Nat.testBit_and, show 32768 = 2 ^ 15 from rfl, Nat.testBit_two_pow]
    by_cases q : 15 = i
    · subst q
      cases h : y.testBit 15
      · simp
      · simp; decide
    · cases h : y.testBit 15
      · simp [q]
      · have z : Nat.testBit (2 ^ 15) i = false := by rw [Nat.testBit_two_pow]; simp [q]
        simpa [q] using z
  rw [e]
  cases y.testBit 15 <;> simp
theorem bit1_xor (a b : Nat) : bit1 (a ^^^ b) = bit1 a ^^^ bit1 b := by
  rw [bit1_alt, bit1_alt, bit1_alt, two_xor, Nat.testBit_xor]
  generalize 2 * a = A
  generalize 2 * b = B
  cases a.testBit 15 <;> cases b.testBit 15
  · simp
  · simp [Nat.xor_assoc]
  · show A ^^^ B ^^^ 4129 = A ^^^ 4129 ^^^ (B ^^^ 0)
    rw [Nat.xor_zero, Nat.xor_assoc, Nat.xor_assoc, Nat.xor_comm B]
  · show A ^^^ B ^^^ 0 = A ^^^ 4129 ^^^ (B ^^^ 4129)
    rw [Nat.xor_zero, Nat.xor_comm B 4129, Nat.xor_assoc, ← Nat.xor_assoc 4129, Nat.xor_self, Nat.zero_xor]
theorem bitN_xor : ∀ (r a b : Nat), bitN r (a ^^^ b) = bitN r a ^^^ bitN r b
  | 0, _, _ => rfl
  | r + 1, a, b => by show bitN r (bit1 (a ^^^ b)) = _; rw [bit1_xor, bitN_xor r]; rfl
theorem add_or {h l : Nat} (hl : l < 256) : 256 * h + l = 256 * h ||| l := Nat.two_pow_add_eq_or_of_lt (i := 8) hl h
theorem crc_b (h : Nat) {l : Nat} (hl : l < 256) : 256 * h + l = (256 * h) ^^^ l := by
  apply Nat.eq_of_testBit_eq
  intro j
  rw [show 256 = 2 ^ 8 from rfl, Nat.testBit_two_pow_mul_add _ hl, Nat.testBit_xor, Nat.testBit_two_pow_mul]
  by_cases q : j < 8
  · rw [if_pos q]; simp [show ¬ (8 ≤ j) by omega]
  · rw [if_neg q, Nat.testBit_lt_two_pow (Nat.lt_of_lt_of_le hl (Nat.pow_le_pow_right (n := 2) (by decide) (show 8 ≤ j by omega)))]; simp [show 8 ≤ j by omega]
theorem and_mod (x k : Nat) : x &&& (2 ^ k - 1) = x % 2 ^ k := Nat.and_two_pow_sub_one_eq_mod x k
theorem mul_xor (k a b : Nat) : 2 ^ k * (a ^^^ b) = (2 ^ k * a) ^^^ (2 ^ k * b) := by
  have h : ∀ x : Nat, 2 ^ k * x = x <<< k := fun x => by rw [Nat.shiftLeft_eq, Nat.mul_comm]
  rw [h, h, h, Nat.shiftLeft_xor_distrib]
theorem crc_a (h l : Nat) : stF ((256 * l) ^^^ h) = (256 * l) ^^^ stF h := by
  have a1 : ∀ x : Nat, x &&& 255 = x % 256 := fun x => and_mod x 8
  have a2 : ∀ x : Nat, x &&& 65535 = x % 65536 := fun x => and_mod x 16
  have hx : ∀ m : Nat, ((256 * l) ^^^ m) % 256 = m % 256 := fun m => by
    have := Nat.xor_mod_two_pow (a := 256 * l) (b := m) (n := 8)
    rw [show 2 ^ 8 = 256 from rfl, Nat.mul_mod_right, Nat.zero_xor] at this; exact this
  have hy : ∀ m : Nat, (4096 * ((256 * l) ^^^ m)) % 65536 = (4096 * m) % 65536 := fun m => by
    have e := mul_xor 12 (256 * l) m
    rw [show 2 ^ 12 = 4096 from rfl] at e
    have := Nat.xor_mod_two_pow (a := 4096 * (256 * l)) (b := 4096 * m) (n := 16)
    rw [show 2 ^ 16 = 65536 from rfl, show 4096 * (256 * l) % 65536 = 0 by omega, Nat.zero_xor] at this
    rw [e]; exact this
  simp only [stF, a1, a2, Nat.xor_assoc, hx, hy]
theorem crc_c : ∀ h, h < 256 → bitN 8 (256 * h) % 65536 = stF h := by decide +kernel
theorem crc_d : ∀ l, l < 256 → bitN 8 l = 256 * l := by decide +kernel
theorem crc_all {h l : Nat} (hh : h < 256) (hl : l < 256) : stF ((256 * l) ^^^ h) = bitN 8 ((256 * h) ^^^ l) % 65536 := by
  rw [crc_a, bitN_xor, crc_d l hl, show 65536 = 2 ^ 16 from rfl, Nat.xor_mod_two_pow, show 2 ^ 16 = 65536 from rfl, crc_c h hh, Nat.mod_eq_of_lt (show 256 * l < 65536 by omega), Nat.xor_comm]
theorem swp_b {h l : Nat} (hh : h < 256) (hl : l < 256) : swp (256 * h + l) = (256 * l) ^^^ h := by
  have a2 : ∀ x : Nat, x &&& 65535 = x % 65536 := fun x => and_mod x 16
  unfold swp
  rw [a2, show 65536 = 2 ^ 16 from rfl, Nat.or_mod_two_pow, show 2 ^ 16 = 65536 from rfl, show (256 * h + l) / 256 % 65536 = h by omega, show 256 * (256 * h + l) % 65536 = 256 * l by omega, Nat.or_comm, ← add_or hh, crc_b l hh]
theorem xor_lt {a b n : Nat} (ha : a < 2 ^ n) (hb : b < 2 ^ n) : a ^^^ b < 2 ^ n := Nat.xor_lt_two_pow ha hb
/-- one byte: the law's step is the program's eight -/
theorem stp_bit {x b : Nat} (hx : x < 65536) (hb : b < 256) : stp x b = bitN 8 (x ^^^ (256 * b)) % 65536 := by
  obtain ⟨h, l, hh, hl, rfl⟩ : ∃ h l, h < 256 ∧ l < 256 ∧ x = 256 * h + l := ⟨x / 256, x % 256, by omega, by omega, by omega⟩
  have hk : h ^^^ b < 256 := xor_lt (n := 8) hh hb
  have e1 : swp (256 * h + l) ^^^ b = (256 * l) ^^^ (h ^^^ b) := by rw [swp_b hh hl, Nat.xor_assoc]
  have e2 : (256 * h + l) ^^^ (256 * b) = (256 * (h ^^^ b)) ^^^ l := by
    rw [crc_b h hl, show 256 * (h ^^^ b) = (256 * h) ^^^ (256 * b) from mul_xor 8 h b, Nat.xor_assoc, Nat.xor_assoc, Nat.xor_comm l]
  have e3 : stp (256 * h + l) b = stF (swp (256 * h + l) ^^^ b) := rfl
  rw [e3, e1, e2]; exact crc_all hk hl
theorem stp_lt {x b : Nat} (hx : x < 65536) (hb : b < 256) : stp x b < 65536 := by rw [stp_bit hx hb]; exact Nat.mod_lt _ (by decide)
def crcS : Nat → List Int32 → Nat
  | x, [] => x
  | x, b :: bs => crcS (stp x b.toInt.toNat) bs
theorem crcS_app : ∀ (xs ys : List Int32) (x : Nat), crcS x (xs ++ ys) = crcS (crcS x xs) ys
  | [], _, _ => rfl
  | x :: xs, ys, z => crcS_app xs ys _
theorem crcB_app : ∀ (xs ys : List Int32) (x : Nat), crcB x (xs ++ ys) = crcB (crcB x xs) ys
  | [], _, _ => rfl
  | x :: xs, ys, z => crcB_app xs ys _
theorem crcS_lt : ∀ (bs : List Int32) (x : Nat), Lat bs → x < 65536 → crcS x bs < 65536
  | [], x, _, hx => hx
  | b :: bs, x, L, hx => crcS_lt bs (stp x b.toInt.toNat) (fun c hc => L c (List.mem_cons_of_mem _ hc)) (stp_lt hx (by have := L b (List.mem_cons_self ..); omega))
theorem crc_eq : ∀ {bs : List Int32} {x : Nat}, Lat bs → crcB x bs % 65536 = crcS (x % 65536) bs
  | [], x, _ => rfl
  | b :: bs, x, L => by
    have hb : b.toInt.toNat < 256 := by have := L b (List.mem_cons_self ..); omega
    show crcB (bitN 8 (x ^^^ (256 * b.toInt.toNat))) bs % 65536 = crcS (stp (x % 65536) b.toInt.toNat) bs
    rw [crc_eq (fun c hc => L c (List.mem_cons_of_mem _ hc)), bitN_mod, stp_bit (Nat.mod_lt _ (by decide)) hb]
    congr 3
    rw [show 65536 = 2 ^ 16 from rfl, Nat.xor_mod_two_pow, Nat.mod_eq_of_lt (show 256 * b.toInt.toNat < 2 ^ 16 by omega)]
/-! ### UTF-8 of chars below 2048 -/
def W11 (cs : List Int32) : Prop := ∀ c ∈ cs, 0 ≤ c.toInt ∧ c.toInt ≤ 2047
theorem W11.at {cs : List Int32} (L : W11 cs) {i : Nat} {c : Int32} (q : cs[i]? = some c) : 0 ≤ c.toInt ∧ c.toInt ≤ 2047 := L c (List.mem_of_getElem? q)
theorem W11.w16 {cs : List Int32} (L : W11 cs) : W16 cs := fun c hc => ⟨(L c hc).1, by have := (L c hc).2; omega⟩
theorem Lat.w11 {cs : List Int32} (L : Lat cs) : W11 cs := fun c hc => ⟨(L c hc).1, by have := (L c hc).2; omega⟩
def b1 (c : Int32) : Int32 := 192 ||| (c >>> ((6 : Int32) &&& 31))
def b2 (c : Int32) : Int32 := 128 ||| (c &&& 63)
def u8 (c : Int32) : List Int32 := if c.toInt < 128 then [c] else [b1 c, b2 c]
def utf8 : List Int32 → List Int32
  | [] => []
  | c :: cs => u8 c ++ utf8 cs
theorem utf8_app : ∀ xs ys : List Int32, utf8 (xs ++ ys) = utf8 xs ++ utf8 ys
  | [], _ => rfl
  | x :: xs, ys => by show u8 x ++ utf8 (xs ++ ys) = _; rw [utf8_app xs ys, ← List.append_assoc]; rfl
theorem utf8_step {cs : List Int32} {i : Nat} {c : Int32} (hc : cs[i]? = some c) : utf8 (cs.take (i + 1)) = utf8 (cs.take i) ++ u8 c := by
  rw [List.take_add_one, hc, utf8_app]
  show _ ++ (u8 c ++ []) = _
  rw [List.append_nil]
theorem utf8_len : ∀ cs : List Int32, (utf8 cs).length ≤ 2 * cs.length
  | [] => Nat.le_refl _
  | c :: cs => by
    have h := utf8_len cs
    show (u8 c ++ utf8 cs).length ≤ _
    rw [List.length_append, List.length_cons]
    have : (u8 c).length ≤ 2 := by unfold u8; split <;> simp
    omega
theorem utf8_low : ∀ {cs : List Int32}, (∀ c ∈ cs, c.toInt < 128) → utf8 cs = cs
  | [], _ => rfl
  | c :: cs, h => by
    show u8 c ++ utf8 cs = _
    rw [utf8_low (fun x hx => h x (List.mem_cons_of_mem _ hx)), u8, if_pos (h c (List.mem_cons_self ..))]; rfl
theorem b1_lat {c : Int32} (q : 0 ≤ c.toInt ∧ c.toInt ≤ 2047) : 0 ≤ (b1 c).toInt ∧ (b1 c).toInt ≤ 255 := by
  have h0 := c_ishr c 6 6 (by decide)
  have h1 := c_or 192 (c >>> ((6 : Int32) &&& 31)) 6 (by decide) 64 (by decide) (by decide) (by omega) (by omega)
  have e : (192 : Int32).toInt = 192 := by decide
  have a1 := (b1 c).toInt_lt
  have a2 := (b1 c).le_toInt
  have h2 : ((b1 c).toInt - ((192 : Int32).toInt + (c >>> ((6 : Int32) &&& 31)).toInt)) % 4294967296 = 0 := h1
  omega
theorem b2_lat (c : Int32) : 0 ≤ (b2 c).toInt ∧ (b2 c).toInt ≤ 255 := by
  have h0 := c_mask c 63 6 (by decide) (by decide)
  have h1 := c_or 128 (c &&& 63) 6 (by decide) 64 (by decide) (by decide) (by omega) (by omega)
  have e : (128 : Int32).toInt = 128 := by decide
  have a1 := (b2 c).toInt_lt
  have a2 := (b2 c).le_toInt
  have h2 : ((b2 c).toInt - ((128 : Int32).toInt + (c &&& 63).toInt)) % 4294967296 = 0 := h1
  omega
theorem utf8_lat : ∀ {cs : List Int32}, W11 cs → Lat (utf8 cs)
  | [], _ => Lat.nil
  | c :: cs, h => fun x hx => by
    have h0 := h c (List.mem_cons_self ..)
    rcases List.mem_append.mp (show x ∈ u8 c ++ utf8 cs from hx) with q | q
    · unfold u8 at q
      split at q
      · rcases List.mem_singleton.mp q with rfl; omega
      · rcases List.mem_cons.mp q with rfl | q
        · exact b1_lat h0
        · rcases List.mem_singleton.mp q with rfl; exact b2_lat c
    · exact utf8_lat (fun y hy => h y (List.mem_cons_of_mem _ hy)) x q
theorem lo8_sign {c : Int32} (q : 0 ≤ c.toInt ∧ c.toInt ≤ 255) : lo8 c < 0 ↔ 128 ≤ c.toInt := by
  have h := c_i2b c
  have e : (lo8 c).toInt = c.toInt8.toInt32.toInt := rfl
  rw [Int32.lt_iff_toInt_lt, show (0 : Int32).toInt = 0 from by decide]; omega
theorem lo8_63 (c : Int32) : lo8 c &&& 63 = c &&& 63 := by
  have h := c_i2b c
  have e : (lo8 c).toInt = c.toInt8.toInt32.toInt := rfl
  have h1 := c_mask c 63 6 (by decide) (by decide)
  have h2 := c_mask (lo8 c) 63 6 (by decide) (by decide)
  apply Int32.toInt_inj.mp
  omega
/-! ### an array filled from the left -/
def Fil (P : List Int32) (N : Nat) : List Value := byt P ++ List.replicate (N - P.length) (.int 0)
theorem fil_len {P : List Int32} {N : Nat} (h : P.length ≤ N) : (Fil P N).length = N := by simp [Fil]; omega
theorem fil_set {P : List Int32} {N : Nat} {x : Int32} (h : P.length < N) : (Fil P N).set P.length (bt x) = Fil (P ++ [x]) N := by
  have e : N - P.length = (N - (P.length + 1)) + 1 := by omega
  have l : (byt P).length = P.length := by simp
  unfold Fil
  rw [List.set_append_right _ _ (by omega), l, Nat.sub_self, e, List.replicate_succ, List.set_cons_zero, List.length_append, List.length_singleton]
  show List.map bt P ++ _ = List.map bt (P ++ [x]) ++ _
  rw [List.map_append, List.append_assoc]; rfl
theorem fil_nil (N : Nat) : Fil [] N = List.replicate N (.int 0) := by simp [Fil]
theorem fil_full {P : List Int32} : Fil P P.length = byt P := by simp [Fil]
theorem fil_take {P : List Int32} {N : Nat} : (Fil P N).take P.length = byt P := by
  unfold Fil
  rw [List.take_append_of_le_length (by simp)]; exact List.take_of_length_le (by simp)
theorem n_mul (a b : Nat) : Int32.ofNat a * Int32.ofNat b = Int32.ofNat (a * b) := (Int32.ofNat_mul a b).symm
theorem ix_hit {ks : List Int32} {c : Int32} {f j : Nat} (h1 : f ≤ j) (h2 : ks[j]? = some c) (h3 : ∀ i, f ≤ i → i < j → ks[i]? ≠ some c) : ixF (ks.drop f) c f = Int32.ofNat j := by
  rcases fx_drop c ks f with ⟨i, e1, e2, e3, e4⟩ | ⟨-, e2⟩
  · rw [ixF_some e1]
    rcases Nat.lt_trichotomy i j with q | q | q
    · exact absurd e3 (h3 i e2 q)
    · rw [q]
    · exact absurd h2 (e4 j h1 q)
  · exact absurd h2 (e2 j h1)
theorem ix_none {ks : List Int32} {c : Int32} {f : Nat} (h : ∀ i, f ≤ i → ks[i]? ≠ some c) : ixF (ks.drop f) c f = -1 := by
  rcases fx_drop c ks f with ⟨i, e1, e2, e3, -⟩ | ⟨e1, -⟩
  · exact absurd e3 (h i e2)
  · rw [ixF_none e1]
end Jvm.Pilot.@@N@@.Kw
namespace Jvm.Pilot.@@N@@
open Jvm Jvm.ClassFile Sem Op Lib Jvm.Free Jvm.Stand Jvm.LawKit Jvm.RoadKit Bundle Jvm.Pilot.@@N@@.Jvm.D Jvm.Pilot.@@N@@.Kw
abbrev EL1 : List (String × Nat) := consts_1
def Gd (Z : State) (a0 : Array Value) : Prop := (∀ d ∈ tables_1, d.before a0 Z = true) ∧ EW Z a0 EL1 ∧ (∃ v, Sta Z Z.heap "java/lang/String" "COMPACT_STRINGS" "Z" (.int v) ∧ ¬ v = 0) ∧ (∃ f, Sta Z Z.heap "jdk/internal/util/Preconditions" "SIOOBE_FORMATTER" "Ljava/util/function/BiFunction;" f ∧ f.isRef = true) ∧ U16w Z ∧ ∃ ua, Sta Z Z.heap "java/nio/charset/StandardCharsets" "UTF_8" "Ljava/nio/charset/Charset;" (.ref ua) ∧ Sta Z Z.heap "sun/nio/cs/UTF_8" "INSTANCE" "Lsun/nio/cs/UTF_8;" (.ref ua)
theorem wS {Z : State} {a0 : Array Value} (G : Gd Z a0) : ∀ a ∈ Bundle.stringAtoms, a.before a0 Z = true := by
  intro a ha
  simp only [Bundle.stringAtoms, List.mem_cons, List.not_mem_nil, or_false] at ha
  rcases ha with rfl | rfl | rfl | rfl | rfl | rfl | rfl
  · exact (G.1 _ (List.mem_of_getElem? (i := 11) rfl))
  · exact (G.1 _ (List.mem_of_getElem? (i := 10) rfl))
  · exact (G.1 _ (List.mem_of_getElem? (i := 23) rfl))
  · exact (G.1 _ (List.mem_of_getElem? (i := 24) rfl))
  · exact (G.1 _ (List.mem_of_getElem? (i := 25) rfl))
  · exact (G.1 _ (List.mem_of_getElem? (i := 26) rfl))
  · exact (G.1 _ (List.mem_of_getElem? (i := 27) rfl))
abbrev mt_cmp5 : Mth := (⟨"java/lang/StringUTF16", "compress", "([CI[BII)I"⟩, jdk_52_method_21_code, 7, some .int)
def tb_cmp5 : Tab := [(0, .iconst 0, 1), (1, .istore 5, 2), (3, .iload 5, 2), (5, .iload 4, 2), (7, .if_icmp .ge 37, 3), (10, .aload_n 0, 1), (11, .iload_n 1, 1), (12, .caload, 1), (13, .istore 6, 2), (15, .iload 6, 2), (17, .sipush 255, 3), (20, .if_icmp .le 6, 3), (23, .iload 5, 2), (25, .ireturn, 1), (26, .aload_n 2, 1), (27, .iload_n 3, 1), (28, .iload 6, 2), (30, .i2b, 1), (31, .bastore, 1), (32, .iinc 1 1, 3), (35, .iinc 3 1, 3), (38, .iinc 5 1, 3), (41, .goto (-38), 3), (44, .iload 4, 2), (46, .ireturn, 1)]
theorem ok_cmp5 : TabOk mt_cmp5.2.1 tb_cmp5 := by
  intro x hx
  have q : tb_cmp5.all (fun x => decide (decode jdk_52_method_21_code x.1 = .ok x.2)) = true := by decide +kernel
  exact of_decide_eq_true (List.all_eq_true.mp q x hx)
theorem pl_cmp5 : plainFor mt_cmp5.1 = true := by first | decide +kernel | exact plainFor_of_name (by first | (simp [plainName, overriddenIn]; done) | decide +kernel)
theorem pd_cmp5 : parseMethodDescriptor "([CI[BII)I" = some ⟨[(.array .char), .int, (.array .byte), .int, .int], some .int⟩ := by decide +kernel

set_option maxRecDepth 65536 in
set_option maxHeartbeats 4000000 in
theorem lp_cmp5 {l : Launch} {Z : State} {a0 : Array Value} (G : Gd Z a0) {b d : Addr} {cs : List Int32} {h : Heap} (hlat : Lat cs) (hl31 : cs.length < 2 ^ 31) (A : Ar Z h b .char (cs.map .int)) (hbd : b ≠ d) : ∀ (r i : Nat), i + r = cs.length → ∀ (z : Slot), Sl1 z → ∀ h1, Keep h h1 [d] → Ar Z h1 d .byte (byt (cs.take i) ++ List.replicate (cs.length - i) (.int 0)) →
    Wp l Z EL1 mt_cmp5 ({ frames := 0, cells := 0, slots := 0, locals := 0 } : Room) h1 [d] 0 0 3 #[.val (.ref b), .val (.int (Int32.ofNat i)), .val (.ref d), .val (.int (Int32.ofNat i)), .val (.int (Int32.ofNat cs.length)), .val (.int (Int32.ofNat i)), z] [] (fun v h' => v = some (.int (Int32.ofNat cs.length)) ∧ Keep h h' [d] ∧ Ar Z h' d .byte (byt cs)) := by
  intro r
  induction r with
  | zero =>
    intro i hi z hz h1 K1 B1
    obtain rfl : i = cs.length := by omega
    refine Wp.run ok_cmp5 2 7 #[.val (.ref b), .val (.int (Int32.ofNat cs.length)), .val (.ref d), .val (.int (Int32.ofNat cs.length)), .val (.int (Int32.ofNat cs.length)), .val (.int (Int32.ofNat cs.length)), z] [(.int (Int32.ofNat cs.length)), (.int (Int32.ofNat cs.length))] rfl ?_
    refine Wp.icmpT ok_cmp5 44 rfl rfl (show ¬ (Int32.ofNat cs.length) < (Int32.ofNat cs.length) from Int32.lt_irrefl) (by decide) (by decide) ?_
    refine Wp.run ok_cmp5 1 46 #[.val (.ref b), .val (.int (Int32.ofNat cs.length)), .val (.ref d), .val (.int (Int32.ofNat cs.length)), .val (.int (Int32.ofNat cs.length)), .val (.int (Int32.ofNat cs.length)), z] [(.int (Int32.ofNat cs.length))] rfl ?_
    exact Wp.retI ok_cmp5 (t := .int) rfl (by decide) rfl rfl rfl ⟨rfl, K1, by simpa using B1⟩
  | succ r ih =>
    intro i hi z hz h1 K1 B1
    obtain ⟨c, hc⟩ : ∃ c, cs[i]? = some c := ⟨_, List.getElem?_eq_getElem (by omega)⟩
    refine Wp.run ok_cmp5 2 7 #[.val (.ref b), .val (.int (Int32.ofNat i)), .val (.ref d), .val (.int (Int32.ofNat i)), .val (.int (Int32.ofNat cs.length)), .val (.int (Int32.ofNat i)), z] [(.int (Int32.ofNat cs.length)), (.int (Int32.ofNat i))] rfl ?_
    refine Wp.icmpF ok_cmp5 rfl rfl (show (Int32.ofNat i) < (Int32.ofNat cs.length) from (n_lt (by omega) (by omega)).mpr (by omega)) ?_
    refine Wp.run ok_cmp5 2 12 #[.val (.ref b), .val (.int (Int32.ofNat i)), .val (.ref d), .val (.int (Int32.ofNat i)), .val (.int (Int32.ofNat cs.length)), .val (.int (Int32.ofNat i)), z] [(.int (Int32.ofNat i)), (.ref b)] rfl ?_
    refine Wp.aget ok_cmp5 (A.keep K1 (ninS hbd nin0)) (i := i) (v := (.int c)) rfl (by simp [hc]) rfl rfl rfl ?_
    refine Wp.istoreS ok_cmp5 hz rfl rfl rfl ?_
    refine Wp.run ok_cmp5 2 20 #[.val (.ref b), .val (.int (Int32.ofNat i)), .val (.ref d), .val (.int (Int32.ofNat i)), .val (.int (Int32.ofNat cs.length)), .val (.int (Int32.ofNat i)), .val (.int c)] [(.int (255 : Int32)), (.int c)] rfl ?_
    refine Wp.icmpT ok_cmp5 26 rfl rfl (show ¬ (255 : Int32) < c from Int32.not_lt.mpr (Int32.le_iff_toInt_le.mpr (by have := (hlat.at hc).2; simpa using this))) (by decide) (by decide) ?_
    refine Wp.run ok_cmp5 4 31 #[.val (.ref b), .val (.int (Int32.ofNat i)), .val (.ref d), .val (.int (Int32.ofNat i)), .val (.int (Int32.ofNat cs.length)), .val (.int (Int32.ofNat i)), .val (.int c)] [(.int (lo8 c)), (.int (Int32.ofNat i)), (.ref d)] rfl ?_
    refine Wp.aput ok_cmp5 B1 (List.mem_of_getElem? (i := 0) rfl) (i := i) rfl (by simp; omega) rfl (fits_bt c) rfl rfl rfl ?_
    intro h2 w2 B2
    refine Wp.run ok_cmp5 4 3 #[.val (.ref b), .val (.int ((Int32.ofNat i) + (1 : Int32))), .val (.ref d), .val (.int ((Int32.ofNat i) + (1 : Int32))), .val (.int (Int32.ofNat cs.length)), .val (.int ((Int32.ofNat i) + (1 : Int32))), .val (.int c)] [] rfl ?_
    refine Wp.at #[.val (.ref b), .val (.int (Int32.ofNat (i + 1))), .val (.ref d), .val (.int (Int32.ofNat (i + 1))), .val (.int (Int32.ofNat cs.length)), .val (.int (Int32.ofNat (i + 1))), .val (.int c)] [] ⟨by simp only [n_succ], rfl⟩ ?_
    refine ih (i + 1) (by omega) _ (Sl1.int _) h2 (K1.trans (wr_keep w2) (fun x hx => Or.inl hx)) ?_
    have q : (byt (cs.take i) ++ List.replicate (cs.length - i) (Value.int 0)).set i (bt c) = byt (cs.take (i + 1)) ++ List.replicate (cs.length - (i + 1)) (Value.int 0) := fill_step hc _ rfl
    rw [← q]; exact B2

set_option maxRecDepth 65536 in
set_option maxHeartbeats 4000000 in
theorem ct_cmp5 {l : Launch} {Z : State} {a0 : Array Value} (G : Gd Z a0) {b d : Addr} {cs : List Int32} (hlat : Lat cs) (h : Heap) (hl31 : cs.length < 2 ^ 31) (A : Ar Z h b .char (cs.map .int)) (B : Ar Z h d .byte (List.replicate cs.length (.int 0))) :
    Ct l Z EL1 mt_cmp5 ({ frames := 0, cells := 0, slots := 0, locals := 0 } : Room) #[(.ref b), (.int 0), (.ref d), (.int 0), (.int (Int32.ofNat cs.length))] h [d] (fun v h' => v = some (.int (Int32.ofNat cs.length)) ∧ Keep h h' [d] ∧ Ar Z h' d .byte (byt cs)) := by
  refine Ct.of_wp pl_cmp5 G.2.1 (Ls := #[.val (.ref b), .val (.int 0), .val (.ref d), .val (.int 0), .val (.int (Int32.ofNat cs.length)), .unset, .unset]) rfl ?_
  refine Wp.run ok_cmp5 2 3 #[.val (.ref b), .val (.int 0), .val (.ref d), .val (.int 0), .val (.int (Int32.ofNat cs.length)), .val (.int (0 : Int32)), .unset] [] rfl ?_
  refine Wp.at #[.val (.ref b), .val (.int 0), .val (.ref d), .val (.int 0), .val (.int (Int32.ofNat cs.length)), .val (.int (0 : Int32)), .unset] [] ⟨rfl, rfl⟩ ?_
  exact lp_cmp5 G hlat hl31 A (fun q => by subst q; obtain ⟨c1, A1, -⟩ := A; obtain ⟨c2, A2, -⟩ := B; exact absurd (arr_ty A1 A2) (by decide)) cs.length 0 (by omega) _ Sl1.unset h (Keep.refl _ _) (by simpa using B)

abbrev mt_cmp3 : Mth := (⟨"java/lang/StringUTF16", "compress", "([CII)[B"⟩, jdk_52_method_16_code, 6, some (.array .byte))
def tb_cmp3 : Tab := [(0, .iload_n 2, 1), (1, .newarray .byte, 2), (3, .astore_n 3, 1), (4, .aload_n 0, 1), (5, .iload_n 1, 1), (6, .aload_n 3, 1), (7, .iconst 0, 1), (8, .iload_n 2, 1), (9, .invokestatic 115, 3), (12, .istore 4, 2), (14, .iload 4, 2), (16, .iload_n 2, 1), (17, .if_icmp .eq 40, 3), (20, .aload_n 0, 1), (21, .iload_n 1, 1), (22, .iload_n 2, 1), (23, .invokestatic 119, 3), (26, .astore 5, 2), (28, .aload 5, 2), (30, .iload 4, 2), (32, .invokestatic 71, 3), (35, .sipush 255, 3), (38, .if_icmp .gt 16, 3), (41, .aload 5, 2), (43, .iconst 0, 1), (44, .aload_n 3, 1), (45, .iconst 0, 1), (46, .iload_n 2, 1), (47, .invokestatic 123, 3), (50, .iload_n 2, 1), (51, .if_icmp .eq 6, 3), (54, .aload 5, 2), (56, .areturn, 1), (57, .aload_n 3, 1), (58, .areturn, 1)]
theorem ok_cmp3 : TabOk mt_cmp3.2.1 tb_cmp3 := by
  intro x hx
  have q : tb_cmp3.all (fun x => decide (decode jdk_52_method_16_code x.1 = .ok x.2)) = true := by decide +kernel
  exact of_decide_eq_true (List.all_eq_true.mp q x hx)
theorem pl_cmp3 : plainFor mt_cmp3.1 = true := by first | decide +kernel | exact plainFor_of_name (by first | (simp [plainName, overriddenIn]; done) | decide +kernel)
theorem pd_cmp3 : parseMethodDescriptor "([CII)[B" = some ⟨[(.array .char), .int, .int], some (.array .byte)⟩ := by decide +kernel

set_option maxRecDepth 65536 in
set_option maxHeartbeats 4000000 in
theorem ct_cmp3 {l : Launch} {Z : State} {a0 : Array Value} (G : Gd Z a0) {b : Addr} {cs : List Int32} (hlat : Lat cs) (hcap : cs.length ≤ 16) (h : Heap) (A : Ar Z h b .char (cs.map .int)) :
    Ct l Z EL1 mt_cmp3 ({ frames := 1, cells := 1, slots := 16, locals := 18 } : Room) #[(.ref b), (.int 0), (.int (Int32.ofNat cs.length))] h [] (fun v h' => ∃ d, v = some (.ref d) ∧ Ext h h' ∧ Ar Z h' d .byte (byt cs) ∧ h.size ≤ d) := by
  refine Ct.of_wp pl_cmp3 G.2.1 (Ls := #[.val (.ref b), .val (.int 0), .val (.int (Int32.ofNat cs.length)), .unset, .unset, .unset]) rfl ?_
  refine Wp.run ok_cmp3 1 1 #[.val (.ref b), .val (.int 0), .val (.int (Int32.ofNat cs.length)), .unset, .unset, .unset] [(.int (Int32.ofNat cs.length))] rfl ?_
  refine Wp.newP ok_cmp3 (len := cs.length) (cap := 16) (G.1 _ (List.mem_of_getElem? (i := 23) rfl)) rfl rfl rfl hcap (Nat.le_of_ble_eq_true rfl) (Nat.le_of_ble_eq_true rfl) (Nat.le_of_ble_eq_true rfl) ?_
  intro h1 E1 B1
  refine Wp.run ok_cmp3 6 9 #[.val (.ref b), .val (.int 0), .val (.int (Int32.ofNat cs.length)), .val (.ref h.size), .unset, .unset] [(.int (Int32.ofNat cs.length)), (.int (0 : Int32)), (.ref h.size), (.int 0), (.ref b)] rfl ?_
  refine Wp.callS ok_cmp3 (argsL := [(.ref b), (.int 0), (.ref h.size), (.int (0 : Int32)), (.int (Int32.ofNat cs.length))]) (rest := []) (ct_cmp5 G hlat h1 (by omega) (A.ext E1) B1) G.2.1 (G.1 _ (List.mem_of_getElem? (i := 122) rfl)) (G.1 _ (List.mem_of_getElem? (i := 123) rfl)) (G.1 _ (List.mem_of_getElem? (i := 120) rfl)) (G.1 _ (List.mem_of_getElem? (i := 124) rfl)) rfl rfl (by decide) pd_cmp5 rfl rfl (Nat.le_of_ble_eq_true rfl) (Nat.le_of_ble_eq_true rfl) (Nat.le_of_ble_eq_true rfl) (Nat.le_of_ble_eq_true rfl) (allS (List.mem_of_getElem? (i := 0) rfl) all0) ?_
  rintro _ h2 ⟨rfl, K2, B2⟩ -
  refine Wp.run ok_cmp3 3 17 #[.val (.ref b), .val (.int 0), .val (.int (Int32.ofNat cs.length)), .val (.ref h.size), .val (.int (Int32.ofNat cs.length)), .unset] [(.int (Int32.ofNat cs.length)), (.int (Int32.ofNat cs.length))] rfl ?_
  refine Wp.icmpT ok_cmp3 57 rfl rfl (show (Int32.ofNat cs.length) = (Int32.ofNat cs.length) from rfl) (by decide) (by decide) ?_
  refine Wp.run ok_cmp3 1 58 #[.val (.ref b), .val (.int 0), .val (.int (Int32.ofNat cs.length)), .val (.ref h.size), .val (.int (Int32.ofNat cs.length)), .unset] [(.ref h.size)] rfl ?_
  exact Wp.retA ok_cmp3 (t := (.array .byte)) rfl rfl rfl rfl rfl ⟨_, rfl, ext_keep E1 K2 (all1 (Nat.le_refl _)), B2, Nat.le_refl _⟩

abbrev mt_cfal : Mth := (⟨"java/lang/StringUTF16", "coderFromArrayLen", "([BI)B"⟩, jdk_52_method_15_code, 2, some .byte)
def tb_cfal : Tab := [(0, .iload_n 1, 1), (1, .aload_n 0, 1), (2, .arraylength, 1), (3, .isub, 1), (4, .bipush 31, 2), (6, .iushr, 1), (7, .i2b, 1), (8, .ireturn, 1)]
theorem ok_cfal : TabOk mt_cfal.2.1 tb_cfal := by
  intro x hx
  have q : tb_cfal.all (fun x => decide (decode jdk_52_method_15_code x.1 = .ok x.2)) = true := by decide +kernel
  exact of_decide_eq_true (List.all_eq_true.mp q x hx)
theorem pl_cfal : plainFor mt_cfal.1 = true := by first | decide +kernel | exact plainFor_of_name (by first | (simp [plainName, overriddenIn]; done) | decide +kernel)
theorem pd_cfal : parseMethodDescriptor "([BI)B" = some ⟨[(.array .byte), .int], some .byte⟩ := by decide +kernel

set_option maxRecDepth 65536 in
set_option maxHeartbeats 4000000 in
theorem ct_cfal {l : Launch} {Z : State} {a0 : Array Value} (G : Gd Z a0) {d : Addr} {vs : List Value} (h : Heap) (B : Ar Z h d .byte vs) :
    Ct l Z EL1 mt_cfal ({ frames := 0, cells := 0, slots := 0, locals := 0 } : Room) #[(.ref d), (.int (Int32.ofNat vs.length))] h [] (fun v h' => v = some (.int 0) ∧ h = h') := by
  refine Ct.of_wp pl_cfal G.2.1 (Ls := #[.val (.ref d), .val (.int (Int32.ofNat vs.length))]) rfl ?_
  refine Wp.run ok_cfal 2 2 #[.val (.ref d), .val (.int (Int32.ofNat vs.length))] [(.ref d), (.int (Int32.ofNat vs.length))] rfl ?_
  refine Wp.alen ok_cfal B rfl rfl ?_
  refine Wp.run ok_cfal 4 8 #[.val (.ref d), .val (.int (Int32.ofNat vs.length))] [(.int (lo8 (ush ((Int32.ofNat vs.length) - (Int32.ofNat vs.length)) (31 : Int32))))] rfl ?_
  have q : lo8 (ush (Int32.ofNat vs.length - Int32.ofNat vs.length) 31) = 0 := by rw [Int32.sub_self]; decide
  refine Wp.at #[.val (.ref d), .val (.int (Int32.ofNat vs.length))] [(.int 0)] ⟨rfl, (by rw [show lo8 (ush (Int32.ofNat vs.length - Int32.ofNat vs.length) (31 : Int32)) = 0 from q] <;> rfl)⟩ ?_
  exact Wp.retI ok_cfal (t := .byte) rfl (by decide) rfl rfl rfl ⟨rfl, rfl⟩

abbrev mt_si4 : Mth := (⟨"java/lang/String", "<init>", "([CIILjava/lang/Void;)V"⟩, jdk_42_method_149_code, 6, none)
def tb_si4 : Tab := [(0, .aload_n 0, 1), (1, .invokespecial 1, 3), (4, .iload_n 3, 1), (5, .ifCond .ne 22, 3), (8, .aload_n 0, 1), (9, .ldc 7, 2), (11, .getfield 9, 3), (14, .putfield 9, 3), (17, .aload_n 0, 1), (18, .ldc 7, 2), (20, .getfield 15, 3), (23, .putfield 15, 3), (26, .return_, 1), (27, .getstatic 38, 3), (30, .ifCond .eq 28, 3), (33, .aload_n 1, 1), (34, .iload_n 2, 1), (35, .iload_n 3, 1), (36, .invokestatic 177, 3), (39, .astore 5, 2), (41, .aload_n 0, 1), (42, .aload 5, 2), (44, .iload_n 3, 1), (45, .invokestatic 47, 3), (48, .putfield 15, 3), (51, .aload_n 0, 1), (52, .aload 5, 2), (54, .putfield 9, 3), (57, .return_, 1), (58, .aload_n 0, 1), (59, .iconst 1, 1), (60, .putfield 15, 3), (63, .aload_n 0, 1), (64, .aload_n 1, 1), (65, .iload_n 2, 1), (66, .iload_n 3, 1), (67, .invokestatic 180, 3), (70, .putfield 9, 3), (73, .return_, 1)]
theorem ok_si4 : TabOk mt_si4.2.1 tb_si4 := by
  intro x hx
  have q : tb_si4.all (fun x => decide (decode jdk_42_method_149_code x.1 = .ok x.2)) = true := by decide +kernel
  exact of_decide_eq_true (List.all_eq_true.mp q x hx)
theorem pl_si4 : plainFor mt_si4.1 = true := by first | decide +kernel | exact plainFor_of_name (by first | (simp [plainName, overriddenIn]; done) | decide +kernel)
theorem pd_si4 : parseMethodDescriptor "([CIILjava/lang/Void;)V" = some ⟨[(.array .char), .int, .int, (.object "java/lang/Void")], none⟩ := by decide +kernel

set_option maxRecDepth 65536 in
set_option maxHeartbeats 4000000 in
theorem ct_si4 {l : Launch} {Z : State} {a0 : Array Value} (G : Gd Z a0) {a b : Addr} {cs : List Int32} (hlat : Lat cs) (hcap : cs.length ≤ 16) (h : Heap) (X0 : Exa Z h a "java/lang/String") (F1 : Fld Z h a "java/lang/String" "coder" "B" (.int 0)) {v0 : Value} (F2 : Fld Z h a "java/lang/String" "value" "[B" v0) (A : Ar Z h b .char (cs.map .int)) :
    Ct l Z EL1 mt_si4 ({ frames := 2, cells := 4, slots := 16, locals := 35 } : Room) #[(.ref a), (.ref b), (.int 0), (.int (Int32.ofNat cs.length)), .null] h [a] (fun v h' => v = none ∧ Keep h h' [a] ∧ Str Z h' a cs) := by
  refine Ct.of_wp pl_si4 G.2.1 (Ls := #[.val (.ref a), .val (.ref b), .val (.int 0), .val (.int (Int32.ofNat cs.length)), .val .null, .unset]) rfl ?_
  refine Wp.run ok_si4 1 1 #[.val (.ref a), .val (.ref b), .val (.int 0), .val (.int (Int32.ofNat cs.length)), .val .null, .unset] [(.ref a)] rfl ?_
  refine Wp.initO ok_si4 (G.1 _ (List.mem_of_getElem? (i := 19) rfl)) (G.1 _ (List.mem_of_getElem? (i := 20) rfl)) (G.1 _ (List.mem_of_getElem? (i := 21) rfl)) rfl rfl rfl (Nat.le_of_ble_eq_true rfl) (Nat.le_of_ble_eq_true rfl) ?_
  refine Wp.run ok_si4 1 5 #[.val (.ref a), .val (.ref b), .val (.int 0), .val (.int (Int32.ofNat cs.length)), .val .null, .unset] [(.int (Int32.ofNat cs.length))] rfl ?_
  refine Wp.if0 ok_si4 27 rfl rfl (by decide) (by decide) (fun hc => ?_) (fun hc => ?_)
  · replace hc : ¬ (Int32.ofNat cs.length) = (0 : Int32) := hc
    obtain ⟨vC, fC, nC⟩ := G.2.2.1
    refine Wp.getS ok_si4 fC (G.1 _ (List.mem_of_getElem? (i := 61) rfl)) Via.refl rfl ?_
    refine Wp.ifF ok_si4 rfl rfl (show ¬ vC = (0 : Int32) from nC) ?_
    refine Wp.run ok_si4 3 36 #[.val (.ref a), .val (.ref b), .val (.int 0), .val (.int (Int32.ofNat cs.length)), .val .null, .unset] [(.int (Int32.ofNat cs.length)), (.int 0), (.ref b)] rfl ?_
    refine Wp.callS ok_si4 (argsL := [(.ref b), (.int 0), (.int (Int32.ofNat cs.length))]) (rest := []) (ct_cmp3 G hlat hcap h A) G.2.1 (G.1 _ (List.mem_of_getElem? (i := 118) rfl)) (G.1 _ (List.mem_of_getElem? (i := 119) rfl)) (G.1 _ (List.mem_of_getElem? (i := 120) rfl)) (G.1 _ (List.mem_of_getElem? (i := 121) rfl)) rfl rfl (by decide) pd_cmp3 rfl rfl (Nat.le_of_ble_eq_true rfl) (Nat.le_of_ble_eq_true rfl) (Nat.le_of_ble_eq_true rfl) (Nat.le_of_ble_eq_true rfl) all0 ?_
    rintro _ h1 ⟨d, rfl, E1, B1, hd⟩ -
    refine Wp.run ok_si4 4 45 #[.val (.ref a), .val (.ref b), .val (.int 0), .val (.int (Int32.ofNat cs.length)), .val .null, .val (.ref d)] [(.int (Int32.ofNat cs.length)), (.ref d), (.ref a)] rfl ?_
    have e0 : Int32.ofNat cs.length = Int32.ofNat (byt cs).length := by simp
    refine Wp.at #[.val (.ref a), .val (.ref b), .val (.int 0), .val (.int (Int32.ofNat cs.length)), .val .null, .val (.ref d)] [(.int (Int32.ofNat (byt cs).length)), (.ref d), (.ref a)] ⟨rfl, (by rw [← e0] <;> rfl)⟩ ?_
    refine Wp.callS ok_si4 (argsL := [(.ref d), (.int (Int32.ofNat (byt cs).length))]) (rest := [(.ref a)]) (ct_cfal G h1 B1) G.2.1 (G.1 _ (List.mem_of_getElem? (i := 125) rfl)) (G.1 _ (List.mem_of_getElem? (i := 126) rfl)) (G.1 _ (List.mem_of_getElem? (i := 120) rfl)) (G.1 _ (List.mem_of_getElem? (i := 127) rfl)) rfl rfl (by decide) pd_cfal rfl rfl (Nat.le_of_ble_eq_true rfl) (Nat.le_of_ble_eq_true rfl) (Nat.le_of_ble_eq_true rfl) (Nat.le_of_ble_eq_true rfl) all0 ?_
    rintro _ _ ⟨rfl, rfl⟩ -
    refine Wp.putF ok_si4 (ty := .byte) (F1.ext E1) (X0.ext E1) (List.mem_of_getElem? (i := 0) rfl) (G.1 _ (List.mem_of_getElem? (i := 29) rfl)) Via.refl (Or.inr ⟨(G.1 _ (List.mem_of_getElem? (i := 25) rfl)), rfl, rfl⟩) (G.1 _ (List.mem_of_getElem? (i := 10) rfl)) (by decide) rfl rfl rfl ?_
    intro h2 w2
    refine Wp.run ok_si4 2 54 #[.val (.ref a), .val (.ref b), .val (.int 0), .val (.int (Int32.ofNat cs.length)), .val .null, .val (.ref d)] [(.ref d), (.ref a)] rfl ?_
    refine Wp.putF ok_si4 (ty := (.array .byte)) ((F2.ext E1).other w2 (Or.inr (slot_ne (Or.inr (G.1 _ (List.mem_of_getElem? (i := 24) rfl))) (Or.inr (G.1 _ (List.mem_of_getElem? (i := 25) rfl))) (by decide) (t := (.array .byte)) (t' := .byte) (by decide) (by decide)))) ((X0.ext E1).wr w2) (List.mem_of_getElem? (i := 0) rfl) (G.1 _ (List.mem_of_getElem? (i := 28) rfl)) Via.refl (Or.inr ⟨(G.1 _ (List.mem_of_getElem? (i := 24) rfl)), rfl, rfl⟩) (G.1 _ (List.mem_of_getElem? (i := 10) rfl)) (by decide) rfl rfl rfl ?_
    intro h3 w3
    have hda : d ≠ a := fun q => by subst q; exact absurd X0.lt (Nat.not_lt.mpr hd)
    exact Wp.ret0 ok_si4 rfl rfl rfl ⟨rfl, (((Keep.refl h [a]).ext E1).trans (wr_keep w2) (fun x hx => Or.inl hx)).trans (wr_keep w3) (fun x hx => Or.inl hx), hlat, ((X0.ext E1).wr w2).wr w3, ((F1.ext E1).same w2).other w3 (Or.inr (slot_ne (Or.inr (G.1 _ (List.mem_of_getElem? (i := 25) rfl))) (Or.inr (G.1 _ (List.mem_of_getElem? (i := 24) rfl))) (by decide) (t := .byte) (t' := (.array .byte)) (by decide) (by decide))), d, ((F2.ext E1).other w2 (Or.inr (slot_ne (Or.inr (G.1 _ (List.mem_of_getElem? (i := 24) rfl))) (Or.inr (G.1 _ (List.mem_of_getElem? (i := 25) rfl))) (by decide) (t := (.array .byte)) (t' := .byte) (by decide) (by decide)))).same w3, (B1.other w2 hda).other w3 hda⟩
  · replace hc : (Int32.ofNat cs.length) = (0 : Int32) := hc
    obtain rfl : cs = [] := List.length_eq_zero_iff.mp ((n_eq (by omega) (by decide)).mp hc)
    refine Wp.run ok_si4 1 9 #[.val (.ref a), .val (.ref b), .val (.int 0), .val (.int (Int32.ofNat ([] : List Int32).length)), .val .null, .unset] [(.ref a)] rfl ?_
    refine Wp.ldcStr ok_si4 (nn := 0) [] (G.1 _ (List.mem_of_getElem? (i := 22) rfl)) (wS G) G.2.1 (by decide) (by decide +kernel) (latD (by decide)) (by decide) rfl (by decide) (by decide) (Nat.le_of_ble_eq_true rfl) (Nat.le_of_ble_eq_true rfl) ?_
    intro e1 h1 E1 S1 N1
    obtain ⟨b1, V1, A1⟩ := S1.val
    refine Wp.getF ok_si4 V1 (G.1 _ (List.mem_of_getElem? (i := 28) rfl)) Via.refl rfl rfl ?_
    refine Wp.putF ok_si4 (ty := (.array .byte)) (F2.ext E1) (X0.ext E1) (List.mem_of_getElem? (i := 0) rfl) (G.1 _ (List.mem_of_getElem? (i := 28) rfl)) Via.refl (Or.inr ⟨(G.1 _ (List.mem_of_getElem? (i := 24) rfl)), rfl, rfl⟩) (G.1 _ (List.mem_of_getElem? (i := 10) rfl)) (by decide) rfl rfl rfl ?_
    intro h2 w2
    refine Wp.run ok_si4 1 18 #[.val (.ref a), .val (.ref b), .val (.int 0), .val (.int (Int32.ofNat ([] : List Int32).length)), .val .null, .unset] [(.ref a)] rfl ?_
    refine Wp.ldcStr ok_si4 (nn := 0) [] (G.1 _ (List.mem_of_getElem? (i := 22) rfl)) (wS G) G.2.1 (by decide) (by decide +kernel) (latD (by decide)) (by decide) rfl (by decide) (by decide) (Nat.le_of_ble_eq_true rfl) (Nat.le_of_ble_eq_true rfl) ?_
    intro e2 h3 E3 S3 N3
    refine Wp.getF ok_si4 S3.cod (G.1 _ (List.mem_of_getElem? (i := 29) rfl)) Via.refl rfl rfl ?_
    refine Wp.putF ok_si4 (ty := .byte) (((F1.ext E1).other w2 (Or.inr (slot_ne (Or.inr (G.1 _ (List.mem_of_getElem? (i := 25) rfl))) (Or.inr (G.1 _ (List.mem_of_getElem? (i := 24) rfl))) (by decide) (t := .byte) (t' := (.array .byte)) (by decide) (by decide)))).ext E3) (((X0.ext E1).wr w2).ext E3) (List.mem_of_getElem? (i := 0) rfl) (G.1 _ (List.mem_of_getElem? (i := 29) rfl)) Via.refl (Or.inr ⟨(G.1 _ (List.mem_of_getElem? (i := 25) rfl)), rfl, rfl⟩) (G.1 _ (List.mem_of_getElem? (i := 10) rfl)) (by decide) rfl rfl rfl ?_
    intro h4 w4
    have hba : b1 ≠ a := fun q => N1 a (List.mem_of_getElem? (i := 0) rfl) (Or.inr (q ▸ V1))
    exact Wp.ret0 ok_si4 rfl rfl rfl ⟨rfl, (((((Keep.refl h [a]).ext E1).trans (wr_keep w2) (fun x hx => Or.inl hx)).ext E3).trans (wr_keep w4) (fun x hx => Or.inl hx)), hlat, ((((X0.ext E1).wr w2).ext E3).wr w4), ((((F1.ext E1).other w2 (Or.inr (slot_ne (Or.inr (G.1 _ (List.mem_of_getElem? (i := 25) rfl))) (Or.inr (G.1 _ (List.mem_of_getElem? (i := 24) rfl))) (by decide) (t := .byte) (t' := (.array .byte)) (by decide) (by decide)))).ext E3).same w4), b1, ((((F2.ext E1).same w2).ext E3).other w4 (Or.inr (slot_ne (Or.inr (G.1 _ (List.mem_of_getElem? (i := 24) rfl))) (Or.inr (G.1 _ (List.mem_of_getElem? (i := 25) rfl))) (by decide) (t := (.array .byte)) (t' := .byte) (by decide) (by decide)))), (((A1.other w2 hba).ext E3).other w4 hba)⟩

set_option maxRecDepth 65536 in
set_option maxHeartbeats 4000000 in
theorem lp_cmp5u {l : Launch} {Z : State} {a0 : Array Value} (G : Gd Z a0) {b d : Addr} {cs : List Int32} {p : Nat} {cw : Int32} {h : Heap} (hpc : cs[p]? = some cw) (hcw : 255 < cw.toInt) (hsm : ∀ j d, j < p → cs[j]? = some d → d.toInt ≤ 255) (hl31 : cs.length < 2 ^ 31) (A : Ar Z h b .char (cs.map .int)) (hbd : b ≠ d) : ∀ (r i : Nat), i + r = p → ∀ (z : Slot), Sl1 z → ∀ h1, Keep h h1 [d] → ∀ vs : List Value, vs.length = cs.length → Ar Z h1 d .byte vs →
    Wp l Z EL1 mt_cmp5 ({ frames := 0, cells := 0, slots := 0, locals := 0 } : Room) h1 [d] 0 0 3 #[.val (.ref b), .val (.int (Int32.ofNat i)), .val (.ref d), .val (.int (Int32.ofNat i)), .val (.int (Int32.ofNat cs.length)), .val (.int (Int32.ofNat i)), z] [] (fun v h' => v = some (.int (Int32.ofNat p)) ∧ Keep h h' [d]) := by
  have hpl := (List.getElem?_eq_some_iff.mp hpc).1
  intro r
  induction r with
  | zero =>
    intro i hi z hz h1 K1 vs hvs B1
    obtain rfl : i = p := by omega
    obtain ⟨c, hc, rfl⟩ : ∃ c, cs[i]? = some c ∧ c = cw := ⟨_, hpc, rfl⟩
    refine Wp.run ok_cmp5 2 7 #[.val (.ref b), .val (.int (Int32.ofNat i)), .val (.ref d), .val (.int (Int32.ofNat i)), .val (.int (Int32.ofNat cs.length)), .val (.int (Int32.ofNat i)), z] [(.int (Int32.ofNat cs.length)), (.int (Int32.ofNat i))] rfl ?_
    refine Wp.icmpF ok_cmp5 rfl rfl (show (Int32.ofNat i) < (Int32.ofNat cs.length) from (n_lt (by omega) (by omega)).mpr (by omega)) ?_
    refine Wp.run ok_cmp5 2 12 #[.val (.ref b), .val (.int (Int32.ofNat i)), .val (.ref d), .val (.int (Int32.ofNat i)), .val (.int (Int32.ofNat cs.length)), .val (.int (Int32.ofNat i)), z] [(.int (Int32.ofNat i)), (.ref b)] rfl ?_
    refine Wp.aget ok_cmp5 (A.keep K1 (ninS hbd nin0)) (i := i) (v := (.int c)) rfl (by simp [hc]) rfl rfl rfl ?_
    refine Wp.istoreS ok_cmp5 hz rfl rfl rfl ?_
    refine Wp.run ok_cmp5 2 20 #[.val (.ref b), .val (.int (Int32.ofNat i)), .val (.ref d), .val (.int (Int32.ofNat i)), .val (.int (Int32.ofNat cs.length)), .val (.int (Int32.ofNat i)), .val (.int c)] [(.int (255 : Int32)), (.int c)] rfl ?_
    refine Wp.icmpF ok_cmp5 rfl rfl (show (255 : Int32) < c from Int32.lt_iff_toInt_lt.mpr (by rw [show (255 : Int32).toInt = 255 from by decide]; exact hcw)) ?_
    refine Wp.run ok_cmp5 1 25 #[.val (.ref b), .val (.int (Int32.ofNat i)), .val (.ref d), .val (.int (Int32.ofNat i)), .val (.int (Int32.ofNat cs.length)), .val (.int (Int32.ofNat i)), .val (.int c)] [(.int (Int32.ofNat i))] rfl ?_
    exact Wp.retI ok_cmp5 (t := .int) rfl (by decide) rfl rfl rfl ⟨rfl, K1⟩
  | succ r ih =>
    intro i hi z hz h1 K1 vs hvs B1
    obtain ⟨c, hc⟩ : ∃ c, cs[i]? = some c := ⟨_, List.getElem?_eq_getElem (by omega)⟩
    refine Wp.run ok_cmp5 2 7 #[.val (.ref b), .val (.int (Int32.ofNat i)), .val (.ref d), .val (.int (Int32.ofNat i)), .val (.int (Int32.ofNat cs.length)), .val (.int (Int32.ofNat i)), z] [(.int (Int32.ofNat cs.length)), (.int (Int32.ofNat i))] rfl ?_
    refine Wp.icmpF ok_cmp5 rfl rfl (show (Int32.ofNat i) < (Int32.ofNat cs.length) from (n_lt (by omega) (by omega)).mpr (by omega)) ?_
    refine Wp.run ok_cmp5 2 12 #[.val (.ref b), .val (.int (Int32.ofNat i)), .val (.ref d), .val (.int (Int32.ofNat i)), .val (.int (Int32.ofNat cs.length)), .val (.int (Int32.ofNat i)), z] [(.int (Int32.ofNat i)), (.ref b)] rfl ?_
    refine Wp.aget ok_cmp5 (A.keep K1 (ninS hbd nin0)) (i := i) (v := (.int c)) rfl (by simp [hc]) rfl rfl rfl ?_
    refine Wp.istoreS ok_cmp5 hz rfl rfl rfl ?_
    refine Wp.run ok_cmp5 2 20 #[.val (.ref b), .val (.int (Int32.ofNat i)), .val (.ref d), .val (.int (Int32.ofNat i)), .val (.int (Int32.ofNat cs.length)), .val (.int (Int32.ofNat i)), .val (.int c)] [(.int (255 : Int32)), (.int c)] rfl ?_
    refine Wp.icmpT ok_cmp5 26 rfl rfl (show ¬ (255 : Int32) < c from Int32.not_lt.mpr (Int32.le_iff_toInt_le.mpr (by simpa using hsm i c (by omega) hc))) (by decide) (by decide) ?_
    refine Wp.run ok_cmp5 4 31 #[.val (.ref b), .val (.int (Int32.ofNat i)), .val (.ref d), .val (.int (Int32.ofNat i)), .val (.int (Int32.ofNat cs.length)), .val (.int (Int32.ofNat i)), .val (.int c)] [(.int (lo8 c)), (.int (Int32.ofNat i)), (.ref d)] rfl ?_
    refine Wp.aput ok_cmp5 B1 (List.mem_of_getElem? (i := 0) rfl) (i := i) rfl (by omega) rfl (fits_bt c) rfl rfl rfl ?_
    intro h2 w2 B2
    refine Wp.run ok_cmp5 4 3 #[.val (.ref b), .val (.int ((Int32.ofNat i) + (1 : Int32))), .val (.ref d), .val (.int ((Int32.ofNat i) + (1 : Int32))), .val (.int (Int32.ofNat cs.length)), .val (.int ((Int32.ofNat i) + (1 : Int32))), .val (.int c)] [] rfl ?_
    refine Wp.at #[.val (.ref b), .val (.int (Int32.ofNat (i + 1))), .val (.ref d), .val (.int (Int32.ofNat (i + 1))), .val (.int (Int32.ofNat cs.length)), .val (.int (Int32.ofNat (i + 1))), .val (.int c)] [] ⟨by simp only [n_succ], rfl⟩ ?_
    exact ih (i + 1) (by omega) _ (Sl1.int _) h2 (K1.trans (wr_keep w2) (fun x hx => Or.inl hx)) _ (by rw [List.length_set]; exact hvs) B2

set_option maxRecDepth 65536 in
set_option maxHeartbeats 4000000 in
theorem ct_cmp5u {l : Launch} {Z : State} {a0 : Array Value} (G : Gd Z a0) {b d : Addr} {cs : List Int32} {p : Nat} (hp : Wide cs p) (h : Heap) (hl31 : cs.length < 2 ^ 31) (A : Ar Z h b .char (cs.map .int)) (B : Ar Z h d .byte (List.replicate cs.length (.int 0))) :
    Ct l Z EL1 mt_cmp5 ({ frames := 0, cells := 0, slots := 0, locals := 0 } : Room) #[(.ref b), (.int 0), (.ref d), (.int 0), (.int (Int32.ofNat cs.length))] h [d] (fun v h' => v = some (.int (Int32.ofNat p)) ∧ Keep h h' [d]) := by
  refine Ct.of_wp pl_cmp5 G.2.1 (Ls := #[.val (.ref b), .val (.int 0), .val (.ref d), .val (.int 0), .val (.int (Int32.ofNat cs.length)), .unset, .unset]) rfl ?_
  refine Wp.run ok_cmp5 2 3 #[.val (.ref b), .val (.int 0), .val (.ref d), .val (.int 0), .val (.int (Int32.ofNat cs.length)), .val (.int (0 : Int32)), .unset] [] rfl ?_
  refine Wp.at #[.val (.ref b), .val (.int 0), .val (.ref d), .val (.int 0), .val (.int (Int32.ofNat cs.length)), .val (.int (0 : Int32)), .unset] [] ⟨rfl, rfl⟩ ?_
  obtain ⟨cw, q1, q2, q3⟩ := hp
  exact lp_cmp5u G q1 q2 q3 hl31 A (fun q => by subst q; obtain ⟨c1, A1, -⟩ := A; obtain ⟨c2, A2, -⟩ := B; exact absurd (arr_ty A1 A2) (by decide)) p 0 (by omega) _ Sl1.unset h (Keep.refl _ _) _ (by simp) B

abbrev mt_pch : Mth := (⟨"java/lang/StringUTF16", "putChar", "([BII)V"⟩, jdk_52_method_4_code, 3, none)
def tb_pch : Tab := [(0, .getstatic 44, 3), (3, .ifCond .ne 25, 3), (6, .iload_n 1, 1), (7, .ifCond .lt 11, 3), (10, .iload_n 1, 1), (11, .aload_n 0, 1), (12, .invokestatic 48, 3), (15, .if_icmp .lt 13, 3), (18, .new 52, 3), (21, .dup, 1), (22, .ldc 54, 2), (24, .invokespecial 56, 3), (27, .athrow, 1), (28, .iload_n 1, 1), (29, .iconst 1, 1), (30, .ishl, 1), (31, .istore_n 1, 1), (32, .aload_n 0, 1), (33, .iload_n 1, 1), (34, .iinc 1 1, 3), (37, .iload_n 2, 1), (38, .getstatic 59, 3), (41, .ishr, 1), (42, .i2b, 1), (43, .bastore, 1), (44, .aload_n 0, 1), (45, .iload_n 1, 1), (46, .iload_n 2, 1), (47, .getstatic 63, 3), (50, .ishr, 1), (51, .i2b, 1), (52, .bastore, 1), (53, .return_, 1)]
theorem ok_pch : TabOk mt_pch.2.1 tb_pch := by
  intro x hx
  have q : tb_pch.all (fun x => decide (decode jdk_52_method_4_code x.1 = .ok x.2)) = true := by decide +kernel
  exact of_decide_eq_true (List.all_eq_true.mp q x hx)
theorem pl_pch : plainFor mt_pch.1 = true := by first | decide +kernel | exact plainFor_of_name (by first | (simp [plainName, overriddenIn]; done) | decide +kernel)
theorem pd_pch : parseMethodDescriptor "([BII)V" = some ⟨[(.array .byte), .int, .int], none⟩ := by decide +kernel

set_option maxRecDepth 65536 in
set_option maxHeartbeats 4000000 in
theorem ct_pch {l : Launch} {Z : State} {a0 : Array Value} (G : Gd Z a0) {b : Addr} {vs : List Value} {i : Nat} {c : Int32} (hi : 2 * i + 1 < vs.length) (h : Heap) (A : Ar Z h b .byte vs) :
    Ct l Z EL1 mt_pch ({ frames := 0, cells := 0, slots := 0, locals := 0 } : Room) #[(.ref b), (.int (Int32.ofNat i)), (.int c)] h [b] (fun v h' => v = none ∧ Keep h h' [b] ∧ Ar Z h' b .byte ((vs.set (2 * i) (.int (lo8 c))).set (2 * i + 1) (.int (hi8 c)))) := by
  refine Ct.of_wp pl_pch G.2.1 (Ls := #[.val (.ref b), .val (.int (Int32.ofNat i)), .val (.int c)]) rfl ?_
  have h31 := A.len
  obtain ⟨sA, sH, sL⟩ := G.2.2.2.2.1
  refine Wp.getS ok_pch sA (G.1 _ (List.mem_of_getElem? (i := 153) rfl)) Via.refl rfl ?_
  refine Wp.ifT ok_pch 28 rfl rfl (show ¬ 1 = (0 : Int32) from by decide) (by decide) (by decide) ?_
  refine Wp.run ok_pch 3 31 #[.val (.ref b), .val (.int (Int32.ofNat i)), .val (.int c)] [(.int ((Int32.ofNat i) <<< ((1 : Int32) &&& 31)))] rfl ?_
  refine Wp.at #[.val (.ref b), .val (.int (Int32.ofNat i)), .val (.int c)] [(.int (Int32.ofNat (2 * i)))] ⟨rfl, (by rw [n_shl1 (by omega)] <;> rfl)⟩ ?_
  refine Wp.run ok_pch 5 38 #[.val (.ref b), .val (.int ((Int32.ofNat (2 * i)) + (1 : Int32))), .val (.int c)] [(.int c), (.int (Int32.ofNat (2 * i))), (.ref b)] rfl ?_
  refine Wp.getS ok_pch sH (G.1 _ (List.mem_of_getElem? (i := 154) rfl)) Via.refl rfl ?_
  refine Wp.run ok_pch 2 43 #[.val (.ref b), .val (.int ((Int32.ofNat (2 * i)) + (1 : Int32))), .val (.int c)] [(.int (lo8 (c >>> ((0 : Int32) &&& 31)))), (.int (Int32.ofNat (2 * i))), (.ref b)] rfl ?_
  refine Wp.at #[.val (.ref b), .val (.int (Int32.ofNat (2 * i + 1))), .val (.int c)] [(.int (lo8 c)), (.int (Int32.ofNat (2 * i))), (.ref b)] ⟨by simp only [n_succ], (by rw [shr0] <;> rfl)⟩ ?_
  refine Wp.aput ok_pch A (List.mem_of_getElem? (i := 0) rfl) (i := (2 * i)) rfl (by omega) rfl (fits_bt c) rfl rfl rfl ?_
  intro h1 w1 B1
  refine Wp.run ok_pch 3 47 #[.val (.ref b), .val (.int (Int32.ofNat (2 * i + 1))), .val (.int c)] [(.int c), (.int (Int32.ofNat (2 * i + 1))), (.ref b)] rfl ?_
  refine Wp.getS ok_pch sL (G.1 _ (List.mem_of_getElem? (i := 155) rfl)) Via.refl rfl ?_
  refine Wp.run ok_pch 2 52 #[.val (.ref b), .val (.int (Int32.ofNat (2 * i + 1))), .val (.int c)] [(.int (lo8 (c >>> ((8 : Int32) &&& 31)))), (.int (Int32.ofNat (2 * i + 1))), (.ref b)] rfl ?_
  refine Wp.at #[.val (.ref b), .val (.int (Int32.ofNat (2 * i + 1))), .val (.int c)] [(.int (hi8 c)), (.int (Int32.ofNat (2 * i + 1))), (.ref b)] ⟨rfl, rfl⟩ ?_
  refine Wp.aput ok_pch B1 (List.mem_of_getElem? (i := 0) rfl) (i := (2 * i + 1)) rfl (by rw [List.length_set]; exact hi) rfl (fits_bt _) rfl rfl rfl ?_
  intro h2 w2 B2
  exact Wp.ret0 ok_pch rfl rfl rfl ⟨rfl, (wr_keep w1).trans (wr_keep w2) (fun x hx => Or.inl hx), B2⟩

abbrev mt_nbl : Mth := (⟨"java/lang/StringUTF16", "newBytesLength", "(I)I"⟩, jdk_52_method_3_code, 1, some .int)
def tb_nbl : Tab := [(0, .iload_n 0, 1), (1, .ifCond .ge 11, 3), (4, .new 17, 3), (7, .dup, 1), (8, .invokespecial 19, 3), (11, .athrow, 1), (12, .iload_n 0, 1), (13, .ldc 20, 2), (15, .if_icmp .lt 40, 3), (18, .new 21, 3), (21, .dup, 1), (22, .new 23, 3), (25, .dup, 1), (26, .invokespecial 25, 3), (29, .ldc 26, 2), (31, .invokevirtual 28, 3), (34, .iload_n 0, 1), (35, .invokevirtual 32, 3), (38, .ldc 35, 2), (40, .invokevirtual 28, 3), (43, .ldc 20, 2), (45, .invokevirtual 32, 3), (48, .invokevirtual 37, 3), (51, .invokespecial 41, 3), (54, .athrow, 1), (55, .iload_n 0, 1), (56, .iconst 1, 1), (57, .ishl, 1), (58, .ireturn, 1)]
theorem ok_nbl : TabOk mt_nbl.2.1 tb_nbl := by
  intro x hx
  have q : tb_nbl.all (fun x => decide (decode jdk_52_method_3_code x.1 = .ok x.2)) = true := by decide +kernel
  exact of_decide_eq_true (List.all_eq_true.mp q x hx)
theorem pl_nbl : plainFor mt_nbl.1 = true := by first | decide +kernel | exact plainFor_of_name (by first | (simp [plainName, overriddenIn]; done) | decide +kernel)
theorem pd_nbl : parseMethodDescriptor "(I)I" = some ⟨[.int], some .int⟩ := by decide +kernel

set_option maxRecDepth 65536 in
set_option maxHeartbeats 4000000 in
theorem ct_nbl {l : Launch} {Z : State} {a0 : Array Value} (G : Gd Z a0) {m : Nat} (hm : m ≤ 16) (h : Heap)  :
    Ct l Z EL1 mt_nbl ({ frames := 0, cells := 0, slots := 0, locals := 0 } : Room) #[(.int (Int32.ofNat m))] h [] (fun v h' => v = some (.int (Int32.ofNat (2 * m))) ∧ h = h') := by
  refine Ct.of_wp pl_nbl G.2.1 (Ls := #[.val (.int (Int32.ofNat m))]) rfl ?_
  refine Wp.run ok_nbl 1 1 #[.val (.int (Int32.ofNat m))] [(.int (Int32.ofNat m))] rfl ?_
  refine Wp.ifT ok_nbl 12 rfl rfl (show ¬ (Int32.ofNat m) < (0 : Int32) from Int32.ofNat_not_neg (by omega)) (by decide) (by decide) ?_
  refine Wp.run ok_nbl 1 13 #[.val (.int (Int32.ofNat m))] [(.int (Int32.ofNat m))] rfl ?_
  refine Wp.ldcI ok_nbl (G.1 _ (List.mem_of_getElem? (i := 149) rfl)) rfl ?_
  refine Wp.icmpT ok_nbl 55 rfl rfl (show (Int32.ofNat m) < (1073741823 : Int32) from (n_lt (i := m) (j := 1073741823) (by omega) (by decide)).mpr (by omega)) (by decide) (by decide) ?_
  refine Wp.run ok_nbl 3 58 #[.val (.int (Int32.ofNat m))] [(.int ((Int32.ofNat m) <<< ((1 : Int32) &&& 31)))] rfl ?_
  refine Wp.at #[.val (.int (Int32.ofNat m))] [(.int (Int32.ofNat (2 * m)))] ⟨rfl, (by rw [n_shl1 (by omega)] <;> rfl)⟩ ?_
  exact Wp.retI ok_nbl (t := .int) rfl (by decide) rfl rfl rfl ⟨rfl, rfl⟩

abbrev mt_nbf : Mth := (⟨"java/lang/StringUTF16", "newBytesFor", "(I)[B"⟩, jdk_52_method_2_code, 1, some (.array .byte))
def tb_nbf : Tab := [(0, .iload_n 0, 1), (1, .invokestatic 11, 3), (4, .newarray .byte, 2), (6, .areturn, 1)]
theorem ok_nbf : TabOk mt_nbf.2.1 tb_nbf := by
  intro x hx
  have q : tb_nbf.all (fun x => decide (decode jdk_52_method_2_code x.1 = .ok x.2)) = true := by decide +kernel
  exact of_decide_eq_true (List.all_eq_true.mp q x hx)
theorem pl_nbf : plainFor mt_nbf.1 = true := by first | decide +kernel | exact plainFor_of_name (by first | (simp [plainName, overriddenIn]; done) | decide +kernel)
theorem pd_nbf : parseMethodDescriptor "(I)[B" = some ⟨[.int], some (.array .byte)⟩ := by decide +kernel

set_option maxRecDepth 65536 in
set_option maxHeartbeats 4000000 in
theorem ct_nbf {l : Launch} {Z : State} {a0 : Array Value} (G : Gd Z a0) {m : Nat} (hm : m ≤ 16) (h : Heap)  :
    Ct3 l Z EL1 mt_nbf ({ frames := 1, cells := 1, slots := 32, locals := 12 } : Room) #[(.int (Int32.ofNat m))] h [] (fun v h' Wo => ∃ d, v = some (.ref d) ∧ Wo = [d] ∧ Ext h h' ∧ h.size ≤ d ∧ Ar Z h' d .byte (List.replicate (2 * m) (.int 0))) := by
  refine Ct.of_wp pl_nbf G.2.1 (Ls := #[.val (.int (Int32.ofNat m))]) rfl ?_
  refine Wp.run ok_nbf 1 1 #[.val (.int (Int32.ofNat m))] [(.int (Int32.ofNat m))] rfl ?_
  refine Wp.callS ok_nbf (argsL := [(.int (Int32.ofNat m))]) (rest := []) (ct_nbl G hm h) G.2.1 (G.1 _ (List.mem_of_getElem? (i := 146) rfl)) (G.1 _ (List.mem_of_getElem? (i := 147) rfl)) (G.1 _ (List.mem_of_getElem? (i := 120) rfl)) (G.1 _ (List.mem_of_getElem? (i := 148) rfl)) rfl rfl (by decide) pd_nbl rfl rfl (Nat.le_of_ble_eq_true rfl) (Nat.le_of_ble_eq_true rfl) (Nat.le_of_ble_eq_true rfl) (Nat.le_of_ble_eq_true rfl) all0 ?_
  rintro _ _ ⟨rfl, rfl⟩ -
  refine Wp.newP ok_nbf (len := (2 * m)) (cap := 32) (G.1 _ (List.mem_of_getElem? (i := 23) rfl)) rfl rfl rfl (by omega) (Nat.le_of_ble_eq_true rfl) (Nat.le_of_ble_eq_true rfl) (Nat.le_of_ble_eq_true rfl) ?_
  intro h1 E1 B1
  exact Wp.retA ok_nbf (t := (.array .byte)) rfl rfl rfl rfl rfl ⟨_, rfl, rfl, E1, Nat.le_refl _, B1⟩

abbrev mt_tob : Mth := (⟨"java/lang/StringUTF16", "toBytes", "([CII)[B"⟩, jdk_52_method_14_code, 5, some (.array .byte))
def tb_tob : Tab := [(0, .iload_n 2, 1), (1, .invokestatic 107, 3), (4, .astore_n 3, 1), (5, .iconst 0, 1), (6, .istore 4, 2), (8, .iload 4, 2), (10, .iload_n 2, 1), (11, .if_icmp .ge 21, 3), (14, .aload_n 3, 1), (15, .iload 4, 2), (17, .aload_n 0, 1), (18, .iload_n 1, 1), (19, .caload, 1), (20, .invokestatic 111, 3), (23, .iinc 1 1, 3), (26, .iinc 4 1, 3), (29, .goto (-21), 3), (32, .aload_n 3, 1), (33, .areturn, 1)]
theorem ok_tob : TabOk mt_tob.2.1 tb_tob := by
  intro x hx
  have q : tb_tob.all (fun x => decide (decode jdk_52_method_14_code x.1 = .ok x.2)) = true := by decide +kernel
  exact of_decide_eq_true (List.all_eq_true.mp q x hx)
theorem pl_tob : plainFor mt_tob.1 = true := by first | decide +kernel | exact plainFor_of_name (by first | (simp [plainName, overriddenIn]; done) | decide +kernel)
theorem pd_tob : parseMethodDescriptor "([CII)[B" = some ⟨[(.array .char), .int, .int], some (.array .byte)⟩ := by decide +kernel

set_option maxRecDepth 65536 in
set_option maxHeartbeats 4000000 in
theorem lp_tob {l : Launch} {Z : State} {a0 : Array Value} (G : Gd Z a0) {b d : Addr} {cs : List Int32} {h h1 : Heap} (hl31 : cs.length < 2 ^ 31) (A : Ar Z h b .char (cs.map .int)) (E1 : Ext h h1) (hd : h.size ≤ d) (hbd : b ≠ d) : ∀ (r i : Nat), i + r = cs.length → ∀ h2, Keep h1 h2 [d] → Ar Z h2 d .byte (u16 (cs.take i) ++ List.replicate (2 * (cs.length - i)) (.int 0)) →
    Wp l Z EL1 mt_tob ({ frames := 2, cells := 1, slots := 32, locals := 57 } : Room) h2 [d] 1 32 8 #[.val (.ref b), .val (.int (Int32.ofNat i)), .val (.int (Int32.ofNat cs.length)), .val (.ref d), .val (.int (Int32.ofNat i))] [] (fun v h' => ∃ d, v = some (.ref d) ∧ Ext h h' ∧ Ar Z h' d .byte (u16 cs) ∧ h.size ≤ d) := by
  intro r
  induction r with
  | zero =>
    intro i hi h2 K2 B2
    obtain rfl : i = cs.length := by omega
    refine Wp.run ok_tob 2 11 #[.val (.ref b), .val (.int (Int32.ofNat cs.length)), .val (.int (Int32.ofNat cs.length)), .val (.ref d), .val (.int (Int32.ofNat cs.length))] [(.int (Int32.ofNat cs.length)), (.int (Int32.ofNat cs.length))] rfl ?_
    refine Wp.icmpT ok_tob 32 rfl rfl (show ¬ (Int32.ofNat cs.length) < (Int32.ofNat cs.length) from Int32.lt_irrefl) (by decide) (by decide) ?_
    refine Wp.run ok_tob 1 33 #[.val (.ref b), .val (.int (Int32.ofNat cs.length)), .val (.int (Int32.ofNat cs.length)), .val (.ref d), .val (.int (Int32.ofNat cs.length))] [(.ref d)] rfl ?_
    exact Wp.retA ok_tob (t := (.array .byte)) rfl rfl rfl rfl rfl ⟨d, rfl, ext_keep E1 K2 (all1 hd), by simpa using B2, hd⟩
  | succ r ih =>
    intro i hi h2 K2 B2
    obtain ⟨c, hc⟩ : ∃ c, cs[i]? = some c := ⟨_, List.getElem?_eq_getElem (by omega)⟩
    refine Wp.run ok_tob 2 11 #[.val (.ref b), .val (.int (Int32.ofNat i)), .val (.int (Int32.ofNat cs.length)), .val (.ref d), .val (.int (Int32.ofNat i))] [(.int (Int32.ofNat cs.length)), (.int (Int32.ofNat i))] rfl ?_
    refine Wp.icmpF ok_tob rfl rfl (show (Int32.ofNat i) < (Int32.ofNat cs.length) from (n_lt (by omega) (by omega)).mpr (by omega)) ?_
    refine Wp.run ok_tob 4 19 #[.val (.ref b), .val (.int (Int32.ofNat i)), .val (.int (Int32.ofNat cs.length)), .val (.ref d), .val (.int (Int32.ofNat i))] [(.int (Int32.ofNat i)), (.ref b), (.int (Int32.ofNat i)), (.ref d)] rfl ?_
    refine Wp.aget ok_tob ((A.ext E1).keep K2 (ninS hbd nin0)) (i := i) (v := (.int c)) rfl (by simp [hc]) rfl rfl rfl ?_
    refine Wp.callS ok_tob (argsL := [(.ref d), (.int (Int32.ofNat i)), (.int c)]) (rest := []) (ct_pch G (i := i) (c := c) (by rw [List.length_append, u16_len, List.length_take, List.length_replicate]; omega) h2 B2) G.2.1 (G.1 _ (List.mem_of_getElem? (i := 150) rfl)) (G.1 _ (List.mem_of_getElem? (i := 151) rfl)) (G.1 _ (List.mem_of_getElem? (i := 120) rfl)) (G.1 _ (List.mem_of_getElem? (i := 152) rfl)) rfl rfl (by decide) pd_pch rfl rfl (Nat.le_of_ble_eq_true rfl) (Nat.le_of_ble_eq_true rfl) (Nat.le_of_ble_eq_true rfl) (Nat.le_of_ble_eq_true rfl) (allS (List.mem_of_getElem? (i := 0) rfl) all0) ?_
    rintro _ h3 ⟨rfl, K3, B3⟩ -
    refine Wp.run ok_tob 3 8 #[.val (.ref b), .val (.int ((Int32.ofNat i) + (1 : Int32))), .val (.int (Int32.ofNat cs.length)), .val (.ref d), .val (.int ((Int32.ofNat i) + (1 : Int32)))] [] rfl ?_
    refine Wp.at #[.val (.ref b), .val (.int (Int32.ofNat (i + 1))), .val (.int (Int32.ofNat cs.length)), .val (.ref d), .val (.int (Int32.ofNat (i + 1)))] [] ⟨by simp only [n_succ], rfl⟩ ?_
    refine Wp.up (Nat.le_of_ble_eq_true rfl) (Nat.le_of_ble_eq_true rfl) (Nat.le_of_ble_eq_true rfl) (Nat.le_of_ble_eq_true rfl) (fun x hx => hx) (ih (i + 1) (by omega) h3 (K2.trans K3 (fun x hx => Or.inl hx)) ?_)
    rw [← u16_step hc]; exact B3

set_option maxRecDepth 65536 in
set_option maxHeartbeats 4000000 in
theorem ct_tob {l : Launch} {Z : State} {a0 : Array Value} (G : Gd Z a0) {b : Addr} {cs : List Int32} (hcap : cs.length ≤ 16) (h : Heap) (A : Ar Z h b .char (cs.map .int)) :
    Ct l Z EL1 mt_tob ({ frames := 2, cells := 1, slots := 32, locals := 57 } : Room) #[(.ref b), (.int 0), (.int (Int32.ofNat cs.length))] h [] (fun v h' => ∃ d, v = some (.ref d) ∧ Ext h h' ∧ Ar Z h' d .byte (u16 cs) ∧ h.size ≤ d) := by
  refine Ct.of_wp pl_tob G.2.1 (Ls := #[.val (.ref b), .val (.int 0), .val (.int (Int32.ofNat cs.length)), .unset, .unset]) rfl ?_
  refine Wp.run ok_tob 1 1 #[.val (.ref b), .val (.int 0), .val (.int (Int32.ofNat cs.length)), .unset, .unset] [(.int (Int32.ofNat cs.length))] rfl ?_
  refine Wp.callS3 ok_tob (argsL := [(.int (Int32.ofNat cs.length))]) (rest := []) (ct_nbf G (m := cs.length) hcap h) G.2.1 (G.1 _ (List.mem_of_getElem? (i := 143) rfl)) (G.1 _ (List.mem_of_getElem? (i := 144) rfl)) (G.1 _ (List.mem_of_getElem? (i := 120) rfl)) (G.1 _ (List.mem_of_getElem? (i := 145) rfl)) rfl rfl (by decide) pd_nbf rfl rfl (Nat.le_of_ble_eq_true rfl) (Nat.le_of_ble_eq_true rfl) (Nat.le_of_ble_eq_true rfl) (Nat.le_of_ble_eq_true rfl) all0 ?_
  rintro _ h1 _ ⟨d, rfl, rfl, E1, hd, B1⟩ -
  refine Wp.run ok_tob 3 8 #[.val (.ref b), .val (.int 0), .val (.int (Int32.ofNat cs.length)), .val (.ref d), .val (.int (0 : Int32))] [] rfl ?_
  refine Wp.at #[.val (.ref b), .val (.int 0), .val (.int (Int32.ofNat cs.length)), .val (.ref d), .val (.int (0 : Int32))] [] ⟨rfl, rfl⟩ ?_
  exact lp_tob G (by omega) A E1 hd (fun q => absurd A.lt (Nat.not_lt.mpr (q ▸ hd))) cs.length 0 (by omega) h1 (Keep.refl _ _) (by simpa [u16] using B1)

abbrev mt_gch : Mth := (⟨"java/lang/StringUTF16", "getChar", "([BI)C"⟩, jdk_52_method_5_code, 2, some .char)
def tb_gch : Tab := [(0, .getstatic 44, 3), (3, .ifCond .ne 25, 3), (6, .iload_n 1, 1), (7, .ifCond .lt 11, 3), (10, .iload_n 1, 1), (11, .aload_n 0, 1), (12, .invokestatic 48, 3), (15, .if_icmp .lt 13, 3), (18, .new 52, 3), (21, .dup, 1), (22, .ldc 54, 2), (24, .invokespecial 56, 3), (27, .athrow, 1), (28, .iload_n 1, 1), (29, .iconst 1, 1), (30, .ishl, 1), (31, .istore_n 1, 1), (32, .aload_n 0, 1), (33, .iload_n 1, 1), (34, .iinc 1 1, 3), (37, .baload, 1), (38, .sipush 255, 3), (41, .iand, 1), (42, .getstatic 59, 3), (45, .ishl, 1), (46, .aload_n 0, 1), (47, .iload_n 1, 1), (48, .baload, 1), (49, .sipush 255, 3), (52, .iand, 1), (53, .getstatic 63, 3), (56, .ishl, 1), (57, .ior, 1), (58, .i2c, 1), (59, .ireturn, 1)]
theorem ok_gch : TabOk mt_gch.2.1 tb_gch := by
  intro x hx
  have q : tb_gch.all (fun x => decide (decode jdk_52_method_5_code x.1 = .ok x.2)) = true := by decide +kernel
  exact of_decide_eq_true (List.all_eq_true.mp q x hx)
theorem pl_gch : plainFor mt_gch.1 = true := by first | decide +kernel | exact plainFor_of_name (by first | (simp [plainName, overriddenIn]; done) | decide +kernel)
theorem pd_gch : parseMethodDescriptor "([BI)C" = some ⟨[(.array .byte), .int], some .char⟩ := by decide +kernel

set_option maxRecDepth 65536 in
set_option maxHeartbeats 4000000 in
theorem ct_gch {l : Launch} {Z : State} {a0 : Array Value} (G : Gd Z a0) {b : Addr} {cs : List Int32} {i : Nat} {c : Int32} (hc : cs[i]? = some c) (hw : 0 ≤ c.toInt ∧ c.toInt ≤ 65535) (h : Heap) (A : Ar Z h b .byte (u16 cs)) :
    Ct l Z EL1 mt_gch ({ frames := 0, cells := 0, slots := 0, locals := 0 } : Room) #[(.ref b), (.int (Int32.ofNat i))] h [] (fun v h' => v = some (.int c) ∧ h = h') := by
  refine Ct.of_wp pl_gch G.2.1 (Ls := #[.val (.ref b), .val (.int (Int32.ofNat i))]) rfl ?_
  have hi := (List.getElem?_eq_some_iff.mp hc).1
  have h31 : 2 * cs.length < 2 ^ 31 := by have z := A.len; rwa [u16_len] at z
  obtain ⟨sA, sH, sL⟩ := G.2.2.2.2.1
  refine Wp.getS ok_gch sA (G.1 _ (List.mem_of_getElem? (i := 153) rfl)) Via.refl rfl ?_
  refine Wp.ifT ok_gch 28 rfl rfl (show ¬ 1 = (0 : Int32) from by decide) (by decide) (by decide) ?_
  refine Wp.run ok_gch 3 31 #[.val (.ref b), .val (.int (Int32.ofNat i))] [(.int ((Int32.ofNat i) <<< ((1 : Int32) &&& 31)))] rfl ?_
  refine Wp.at #[.val (.ref b), .val (.int (Int32.ofNat i))] [(.int (Int32.ofNat (2 * i)))] ⟨rfl, (by rw [n_shl1 (by omega)] <;> rfl)⟩ ?_
  refine Wp.run ok_gch 4 37 #[.val (.ref b), .val (.int ((Int32.ofNat (2 * i)) + (1 : Int32)))] [(.int (Int32.ofNat (2 * i))), (.ref b)] rfl ?_
  refine Wp.aget ok_gch A (i := (2 * i)) (v := (.int (lo8 c))) rfl (u16_lo cs i hc) rfl rfl rfl ?_
  refine Wp.run ok_gch 2 42 #[.val (.ref b), .val (.int ((Int32.ofNat (2 * i)) + (1 : Int32)))] [(.int ((lo8 c) &&& (255 : Int32)))] rfl ?_
  refine Wp.getS ok_gch sH (G.1 _ (List.mem_of_getElem? (i := 154) rfl)) Via.refl rfl ?_
  refine Wp.run ok_gch 3 48 #[.val (.ref b), .val (.int ((Int32.ofNat (2 * i)) + (1 : Int32)))] [(.int ((Int32.ofNat (2 * i)) + (1 : Int32))), (.ref b), (.int (((lo8 c) &&& (255 : Int32)) <<< ((0 : Int32) &&& 31)))] rfl ?_
  refine Wp.at #[.val (.ref b), .val (.int (Int32.ofNat (2 * i + 1)))] [(.int (Int32.ofNat (2 * i + 1))), (.ref b), (.int (((lo8 c) &&& (255 : Int32)) <<< ((0 : Int32) &&& 31)))] ⟨by simp only [n_succ], by simp only [n_succ]⟩ ?_
  refine Wp.aget ok_gch A (i := (2 * i + 1)) (v := (.int (hi8 c))) rfl (u16_hi cs i hc) rfl rfl rfl ?_
  refine Wp.run ok_gch 2 53 #[.val (.ref b), .val (.int (Int32.ofNat (2 * i + 1)))] [(.int ((hi8 c) &&& (255 : Int32))), (.int (((lo8 c) &&& (255 : Int32)) <<< ((0 : Int32) &&& 31)))] rfl ?_
  refine Wp.getS ok_gch sL (G.1 _ (List.mem_of_getElem? (i := 155) rfl)) Via.refl rfl ?_
  refine Wp.run ok_gch 3 59 #[.val (.ref b), .val (.int (Int32.ofNat (2 * i + 1)))] [(.int (c16 ((((lo8 c) &&& (255 : Int32)) <<< ((0 : Int32) &&& 31)) ||| (((hi8 c) &&& (255 : Int32)) <<< ((8 : Int32) &&& 31)))))] rfl ?_
  refine Wp.at #[.val (.ref b), .val (.int (Int32.ofNat (2 * i + 1)))] [(.int c)] ⟨rfl, (by rw [u_char hw] <;> rfl)⟩ ?_
  exact Wp.retI ok_gch (t := .char) rfl (by decide) rfl rfl (fitw hw) ⟨rfl, rfl⟩

set_option maxRecDepth 65536 in
set_option maxHeartbeats 4000000 in
theorem ct_cmp3u {l : Launch} {Z : State} {a0 : Array Value} (G : Gd Z a0) {b : Addr} {cs : List Int32} {p : Nat} (hp : Wide cs p) (hw : W16 cs) (hcap : cs.length ≤ 16) (h : Heap) (A : Ar Z h b .char (cs.map .int)) :
    Ct l Z EL1 mt_cmp3 ({ frames := 3, cells := 2, slots := 48, locals := 73 } : Room) #[(.ref b), (.int 0), (.int (Int32.ofNat cs.length))] h [] (fun v h' => ∃ d, v = some (.ref d) ∧ Ext h h' ∧ Ar Z h' d .byte (u16 cs) ∧ h.size ≤ d) := by
  refine Ct.of_wp pl_cmp3 G.2.1 (Ls := #[.val (.ref b), .val (.int 0), .val (.int (Int32.ofNat cs.length)), .unset, .unset, .unset]) rfl ?_
  obtain ⟨cw, q1, q2, q3⟩ := id hp
  have hpl := (List.getElem?_eq_some_iff.mp q1).1
  refine Wp.run ok_cmp3 1 1 #[.val (.ref b), .val (.int 0), .val (.int (Int32.ofNat cs.length)), .unset, .unset, .unset] [(.int (Int32.ofNat cs.length))] rfl ?_
  refine Wp.newP ok_cmp3 (len := cs.length) (cap := 16) (G.1 _ (List.mem_of_getElem? (i := 23) rfl)) rfl rfl rfl hcap (Nat.le_of_ble_eq_true rfl) (Nat.le_of_ble_eq_true rfl) (Nat.le_of_ble_eq_true rfl) ?_
  intro h1 E1 B1
  refine Wp.run ok_cmp3 6 9 #[.val (.ref b), .val (.int 0), .val (.int (Int32.ofNat cs.length)), .val (.ref h.size), .unset, .unset] [(.int (Int32.ofNat cs.length)), (.int (0 : Int32)), (.ref h.size), (.int 0), (.ref b)] rfl ?_
  refine Wp.callS ok_cmp3 (argsL := [(.ref b), (.int 0), (.ref h.size), (.int (0 : Int32)), (.int (Int32.ofNat cs.length))]) (rest := []) (ct_cmp5u G hp h1 (by omega) (A.ext E1) B1) G.2.1 (G.1 _ (List.mem_of_getElem? (i := 122) rfl)) (G.1 _ (List.mem_of_getElem? (i := 123) rfl)) (G.1 _ (List.mem_of_getElem? (i := 120) rfl)) (G.1 _ (List.mem_of_getElem? (i := 124) rfl)) rfl rfl (by decide) pd_cmp5 rfl rfl (Nat.le_of_ble_eq_true rfl) (Nat.le_of_ble_eq_true rfl) (Nat.le_of_ble_eq_true rfl) (Nat.le_of_ble_eq_true rfl) (allS (List.mem_of_getElem? (i := 0) rfl) all0) ?_
  rintro _ h2 ⟨rfl, K2⟩ -
  have E2 : Ext h h2 := ext_keep E1 K2 (all1 (Nat.le_refl _))
  refine Wp.run ok_cmp3 3 17 #[.val (.ref b), .val (.int 0), .val (.int (Int32.ofNat cs.length)), .val (.ref h.size), .val (.int (Int32.ofNat p)), .unset] [(.int (Int32.ofNat cs.length)), (.int (Int32.ofNat p))] rfl ?_
  refine Wp.icmpF ok_cmp3 rfl rfl (show ¬ (Int32.ofNat p) = (Int32.ofNat cs.length) from fun q => absurd ((n_eq (by omega) (by omega)).mp q) (by omega)) ?_
  refine Wp.run ok_cmp3 3 23 #[.val (.ref b), .val (.int 0), .val (.int (Int32.ofNat cs.length)), .val (.ref h.size), .val (.int (Int32.ofNat p)), .unset] [(.int (Int32.ofNat cs.length)), (.int 0), (.ref b)] rfl ?_
  refine Wp.callS ok_cmp3 (argsL := [(.ref b), (.int 0), (.int (Int32.ofNat cs.length))]) (rest := []) (ct_tob G hcap h2 (A.ext E2)) G.2.1 (G.1 _ (List.mem_of_getElem? (i := 140) rfl)) (G.1 _ (List.mem_of_getElem? (i := 141) rfl)) (G.1 _ (List.mem_of_getElem? (i := 120) rfl)) (G.1 _ (List.mem_of_getElem? (i := 142) rfl)) rfl rfl (by decide) pd_tob rfl rfl (Nat.le_of_ble_eq_true rfl) (Nat.le_of_ble_eq_true rfl) (Nat.le_of_ble_eq_true rfl) (Nat.le_of_ble_eq_true rfl) all0 ?_
  rintro _ h3 ⟨d, rfl, E3, A3, hd⟩ -
  refine Wp.run ok_cmp3 3 32 #[.val (.ref b), .val (.int 0), .val (.int (Int32.ofNat cs.length)), .val (.ref h.size), .val (.int (Int32.ofNat p)), .val (.ref d)] [(.int (Int32.ofNat p)), (.ref d)] rfl ?_
  refine Wp.callS ok_cmp3 (argsL := [(.ref d), (.int (Int32.ofNat p))]) (rest := []) (ct_gch G q1 (hw.at q1) h3 A3) G.2.1 (G.1 _ (List.mem_of_getElem? (i := 156) rfl)) (G.1 _ (List.mem_of_getElem? (i := 157) rfl)) (G.1 _ (List.mem_of_getElem? (i := 120) rfl)) (G.1 _ (List.mem_of_getElem? (i := 158) rfl)) rfl rfl (by decide) pd_gch rfl rfl (Nat.le_of_ble_eq_true rfl) (Nat.le_of_ble_eq_true rfl) (Nat.le_of_ble_eq_true rfl) (Nat.le_of_ble_eq_true rfl) all0 ?_
  rintro _ _ ⟨rfl, rfl⟩ -
  refine Wp.run ok_cmp3 1 38 #[.val (.ref b), .val (.int 0), .val (.int (Int32.ofNat cs.length)), .val (.ref h.size), .val (.int (Int32.ofNat p)), .val (.ref d)] [(.int (255 : Int32)), (.int cw)] rfl ?_
  refine Wp.icmpT ok_cmp3 54 rfl rfl (show (255 : Int32) < cw from Int32.lt_iff_toInt_lt.mpr (by rw [show (255 : Int32).toInt = 255 from by decide]; exact q2)) (by decide) (by decide) ?_
  refine Wp.run ok_cmp3 1 56 #[.val (.ref b), .val (.int 0), .val (.int (Int32.ofNat cs.length)), .val (.ref h.size), .val (.int (Int32.ofNat p)), .val (.ref d)] [(.ref d)] rfl ?_
  exact Wp.retA ok_cmp3 (t := (.array .byte)) rfl rfl rfl rfl rfl ⟨d, rfl, ext_trans E2 E3, A3, Nat.le_trans E2.1 hd⟩

set_option maxRecDepth 65536 in
set_option maxHeartbeats 4000000 in
theorem ct_cfalu {l : Launch} {Z : State} {a0 : Array Value} (G : Gd Z a0) {d : Addr} {cs : List Int32} (hcap : cs.length ≤ 16) (hne : 0 < cs.length) (h : Heap) (B : Ar Z h d .byte (u16 cs)) :
    Ct l Z EL1 mt_cfal ({ frames := 0, cells := 0, slots := 0, locals := 0 } : Room) #[(.ref d), (.int (Int32.ofNat cs.length))] h [] (fun v h' => v = some (.int 1) ∧ h = h') := by
  refine Ct.of_wp pl_cfal G.2.1 (Ls := #[.val (.ref d), .val (.int (Int32.ofNat cs.length))]) rfl ?_
  refine Wp.run ok_cfal 2 2 #[.val (.ref d), .val (.int (Int32.ofNat cs.length))] [(.ref d), (.int (Int32.ofNat cs.length))] rfl ?_
  refine Wp.alen ok_cfal B rfl rfl ?_
  refine Wp.run ok_cfal 4 8 #[.val (.ref d), .val (.int (Int32.ofNat cs.length))] [(.int (lo8 (ush ((Int32.ofNat cs.length) - (Int32.ofNat ((u16 cs).length))) (31 : Int32))))] rfl ?_
  have q : ∀ m : Nat, m ≤ 16 → 0 < m → lo8 (ush (Int32.ofNat m - Int32.ofNat (2 * m)) 31) = 1 := by decide +kernel
  refine Wp.at #[.val (.ref d), .val (.int (Int32.ofNat cs.length))] [(.int 1)] ⟨rfl, (by rw [u16_len, show lo8 (ush (Int32.ofNat cs.length - Int32.ofNat (2 * cs.length)) (31 : Int32)) = 1 from q _ hcap hne] <;> rfl)⟩ ?_
  exact Wp.retI ok_cfal (t := .byte) rfl (by decide) rfl rfl rfl ⟨rfl, rfl⟩

set_option maxRecDepth 65536 in
set_option maxHeartbeats 4000000 in
theorem ct_si4u {l : Launch} {Z : State} {a0 : Array Value} (G : Gd Z a0) {a b : Addr} {cs : List Int32} {p : Nat} (hp : Wide cs p) (hw : W16 cs) (hcap : cs.length ≤ 16) (h : Heap) (X0 : Exa Z h a "java/lang/String") (F1 : Fld Z h a "java/lang/String" "coder" "B" (.int 0)) {v0 : Value} (F2 : Fld Z h a "java/lang/String" "value" "[B" v0) (A : Ar Z h b .char (cs.map .int)) :
    Ct l Z EL1 mt_si4 ({ frames := 4, cells := 2, slots := 48, locals := 90 } : Room) #[(.ref a), (.ref b), (.int 0), (.int (Int32.ofNat cs.length)), .null] h [a] (fun v h' => v = none ∧ Keep h h' [a] ∧ StrU Z h' a cs) := by
  refine Ct.of_wp pl_si4 G.2.1 (Ls := #[.val (.ref a), .val (.ref b), .val (.int 0), .val (.int (Int32.ofNat cs.length)), .val .null, .unset]) rfl ?_
  obtain ⟨cw, q1, q2, q3⟩ := id hp
  have hpl := (List.getElem?_eq_some_iff.mp q1).1
  refine Wp.run ok_si4 1 1 #[.val (.ref a), .val (.ref b), .val (.int 0), .val (.int (Int32.ofNat cs.length)), .val .null, .unset] [(.ref a)] rfl ?_
  refine Wp.initO ok_si4 (G.1 _ (List.mem_of_getElem? (i := 19) rfl)) (G.1 _ (List.mem_of_getElem? (i := 20) rfl)) (G.1 _ (List.mem_of_getElem? (i := 21) rfl)) rfl rfl rfl (Nat.le_of_ble_eq_true rfl) (Nat.le_of_ble_eq_true rfl) ?_
  refine Wp.run ok_si4 1 5 #[.val (.ref a), .val (.ref b), .val (.int 0), .val (.int (Int32.ofNat cs.length)), .val .null, .unset] [(.int (Int32.ofNat cs.length))] rfl ?_
  refine Wp.ifT ok_si4 27 rfl rfl (show ¬ (Int32.ofNat cs.length) = (0 : Int32) from fun q => absurd ((n_eq (by omega) (by decide)).mp q) (show cs.length ≠ 0 by omega)) (by decide) (by decide) ?_
  obtain ⟨vC, fC, nC⟩ := G.2.2.1
  refine Wp.getS ok_si4 fC (G.1 _ (List.mem_of_getElem? (i := 61) rfl)) Via.refl rfl ?_
  refine Wp.ifF ok_si4 rfl rfl (show ¬ vC = (0 : Int32) from nC) ?_
  refine Wp.run ok_si4 3 36 #[.val (.ref a), .val (.ref b), .val (.int 0), .val (.int (Int32.ofNat cs.length)), .val .null, .unset] [(.int (Int32.ofNat cs.length)), (.int 0), (.ref b)] rfl ?_
  refine Wp.callS ok_si4 (argsL := [(.ref b), (.int 0), (.int (Int32.ofNat cs.length))]) (rest := []) (ct_cmp3u G hp hw hcap h A) G.2.1 (G.1 _ (List.mem_of_getElem? (i := 118) rfl)) (G.1 _ (List.mem_of_getElem? (i := 119) rfl)) (G.1 _ (List.mem_of_getElem? (i := 120) rfl)) (G.1 _ (List.mem_of_getElem? (i := 121) rfl)) rfl rfl (by decide) pd_cmp3 rfl rfl (Nat.le_of_ble_eq_true rfl) (Nat.le_of_ble_eq_true rfl) (Nat.le_of_ble_eq_true rfl) (Nat.le_of_ble_eq_true rfl) all0 ?_
  rintro _ h1 ⟨d, rfl, E1, B1, hd⟩ -
  refine Wp.run ok_si4 4 45 #[.val (.ref a), .val (.ref b), .val (.int 0), .val (.int (Int32.ofNat cs.length)), .val .null, .val (.ref d)] [(.int (Int32.ofNat cs.length)), (.ref d), (.ref a)] rfl ?_
  refine Wp.callS ok_si4 (argsL := [(.ref d), (.int (Int32.ofNat cs.length))]) (rest := [(.ref a)]) (ct_cfalu G hcap (by omega) h1 B1) G.2.1 (G.1 _ (List.mem_of_getElem? (i := 125) rfl)) (G.1 _ (List.mem_of_getElem? (i := 126) rfl)) (G.1 _ (List.mem_of_getElem? (i := 120) rfl)) (G.1 _ (List.mem_of_getElem? (i := 127) rfl)) rfl rfl (by decide) pd_cfal rfl rfl (Nat.le_of_ble_eq_true rfl) (Nat.le_of_ble_eq_true rfl) (Nat.le_of_ble_eq_true rfl) (Nat.le_of_ble_eq_true rfl) all0 ?_
  rintro _ _ ⟨rfl, rfl⟩ -
  refine Wp.putF ok_si4 (ty := .byte) (F1.ext E1) (X0.ext E1) (List.mem_of_getElem? (i := 0) rfl) (G.1 _ (List.mem_of_getElem? (i := 29) rfl)) Via.refl (Or.inr ⟨(G.1 _ (List.mem_of_getElem? (i := 25) rfl)), rfl, rfl⟩) (G.1 _ (List.mem_of_getElem? (i := 10) rfl)) (by decide) rfl rfl rfl ?_
  intro h2 w2
  refine Wp.run ok_si4 2 54 #[.val (.ref a), .val (.ref b), .val (.int 0), .val (.int (Int32.ofNat cs.length)), .val .null, .val (.ref d)] [(.ref d), (.ref a)] rfl ?_
  refine Wp.putF ok_si4 (ty := (.array .byte)) ((F2.ext E1).other w2 (Or.inr (slot_ne (Or.inr (G.1 _ (List.mem_of_getElem? (i := 24) rfl))) (Or.inr (G.1 _ (List.mem_of_getElem? (i := 25) rfl))) (by decide) (t := (.array .byte)) (t' := .byte) (by decide) (by decide)))) ((X0.ext E1).wr w2) (List.mem_of_getElem? (i := 0) rfl) (G.1 _ (List.mem_of_getElem? (i := 28) rfl)) Via.refl (Or.inr ⟨(G.1 _ (List.mem_of_getElem? (i := 24) rfl)), rfl, rfl⟩) (G.1 _ (List.mem_of_getElem? (i := 10) rfl)) (by decide) rfl rfl rfl ?_
  intro h3 w3
  have hda : d ≠ a := fun q => by subst q; exact absurd X0.lt (Nat.not_lt.mpr hd)
  exact Wp.ret0 ok_si4 rfl rfl rfl ⟨rfl, (((Keep.refl h [a]).ext E1).trans (wr_keep w2) (fun x hx => Or.inl hx)).trans (wr_keep w3) (fun x hx => Or.inl hx), ⟨hw, by omega⟩, ((X0.ext E1).wr w2).wr w3, ((F1.ext E1).same w2).other w3 (Or.inr (slot_ne (Or.inr (G.1 _ (List.mem_of_getElem? (i := 25) rfl))) (Or.inr (G.1 _ (List.mem_of_getElem? (i := 24) rfl))) (by decide) (t := .byte) (t' := (.array .byte)) (by decide) (by decide))), d, ((F2.ext E1).other w2 (Or.inr (slot_ne (Or.inr (G.1 _ (List.mem_of_getElem? (i := 24) rfl))) (Or.inr (G.1 _ (List.mem_of_getElem? (i := 25) rfl))) (by decide) (t := (.array .byte)) (t' := .byte) (by decide) (by decide)))).same w3, (B1.other w2 hda).other w3 hda⟩

abbrev mt_si1 : Mth := (⟨"java/lang/String", "<init>", "([C)V"⟩, jdk_42_method_3_code, 2, none)
def tb_si1 : Tab := [(0, .aload_n 0, 1), (1, .aload_n 1, 1), (2, .iconst 0, 1), (3, .aload_n 1, 1), (4, .arraylength, 1), (5, .aconst_null, 1), (6, .invokespecial 27, 3), (9, .return_, 1)]
theorem ok_si1 : TabOk mt_si1.2.1 tb_si1 := by
  intro x hx
  have q : tb_si1.all (fun x => decide (decode jdk_42_method_3_code x.1 = .ok x.2)) = true := by decide +kernel
  exact of_decide_eq_true (List.all_eq_true.mp q x hx)
theorem pl_si1 : plainFor mt_si1.1 = true := by first | decide +kernel | exact plainFor_of_name (by first | (simp [plainName, overriddenIn]; done) | decide +kernel)
theorem pd_si1 : parseMethodDescriptor "([C)V" = some ⟨[(.array .char)], none⟩ := by decide +kernel

set_option maxRecDepth 65536 in
set_option maxHeartbeats 4000000 in
theorem ct_sig {l : Launch} {Z : State} {a0 : Array Value} (G : Gd Z a0) {a b : Addr} {cs : List Int32} (hw : W16 cs) (hcap : cs.length ≤ 16) (h : Heap) (X0 : Exa Z h a "java/lang/String") (F1 : Fld Z h a "java/lang/String" "coder" "B" (.int 0)) {v0 : Value} (F2 : Fld Z h a "java/lang/String" "value" "[B" v0) (A : Ar Z h b .char (cs.map .int)) :
    Ct l Z EL1 mt_si1 ({ frames := 5, cells := 4, slots := 48, locals := 107 } : Room) #[(.ref a), (.ref b)] h [a] (fun v h' => v = none ∧ Keep h h' [a] ∧ StrG Z h' a cs) := by
  refine Ct.of_wp pl_si1 G.2.1 (Ls := #[.val (.ref a), .val (.ref b)]) rfl ?_
  refine Wp.run ok_si1 4 4 #[.val (.ref a), .val (.ref b)] [(.ref b), (.int (0 : Int32)), (.ref b), (.ref a)] rfl ?_
  refine Wp.alen ok_si1 A rfl rfl ?_
  refine Wp.at #[.val (.ref a), .val (.ref b)] [(.int (Int32.ofNat cs.length)), (.int (0 : Int32)), (.ref b), (.ref a)] ⟨rfl, by simp only [List.length_map]⟩ ?_
  refine Wp.run ok_si1 1 6 #[.val (.ref a), .val (.ref b)] [.null, (.int (Int32.ofNat cs.length)), (.int (0 : Int32)), (.ref b), (.ref a)] rfl ?_
  rcases lat_or_wide hw with hlat | ⟨p, hp⟩
  · refine Wp.callI ok_si1 (a := a) (argsL := [(.ref b), (.int (0 : Int32)), (.int (Int32.ofNat cs.length)), .null]) (rest := []) (ct_si4 G hlat hcap h X0 F1 F2 A) G.2.1 (G.1 _ (List.mem_of_getElem? (i := 15) rfl)) (G.1 _ (List.mem_of_getElem? (i := 16) rfl)) (G.1 _ (List.mem_of_getElem? (i := 11) rfl)) (G.1 _ (List.mem_of_getElem? (i := 18) rfl)) rfl rfl rfl rfl (by decide) pd_si4 rfl rfl (Nat.le_of_ble_eq_true rfl) (Nat.le_of_ble_eq_true rfl) (Nat.le_of_ble_eq_true rfl) (Nat.le_of_ble_eq_true rfl) (allS (List.mem_of_getElem? (i := 0) rfl) all0) ?_
    rintro _ h1 ⟨rfl, K1, S1⟩ -
    exact Wp.ret0 ok_si1 rfl rfl rfl ⟨rfl, K1, Or.inl S1⟩
  · refine Wp.callI ok_si1 (a := a) (argsL := [(.ref b), (.int (0 : Int32)), (.int (Int32.ofNat cs.length)), .null]) (rest := []) (ct_si4u G hp hw hcap h X0 F1 F2 A) G.2.1 (G.1 _ (List.mem_of_getElem? (i := 15) rfl)) (G.1 _ (List.mem_of_getElem? (i := 16) rfl)) (G.1 _ (List.mem_of_getElem? (i := 11) rfl)) (G.1 _ (List.mem_of_getElem? (i := 18) rfl)) rfl rfl rfl rfl (by decide) pd_si4 rfl rfl (Nat.le_of_ble_eq_true rfl) (Nat.le_of_ble_eq_true rfl) (Nat.le_of_ble_eq_true rfl) (Nat.le_of_ble_eq_true rfl) (allS (List.mem_of_getElem? (i := 0) rfl) all0) ?_
    rintro _ h1 ⟨rfl, K1, S1⟩ -
    exact Wp.ret0 ok_si1 rfl rfl rfl ⟨rfl, K1, Or.inr S1⟩

abbrev mt_cod : Mth := (⟨"java/lang/String", "coder", "()B"⟩, jdk_42_method_152_code, 1, some .byte)
def tb_cod : Tab := [(0, .getstatic 38, 3), (3, .ifCond .eq 10, 3), (6, .aload_n 0, 1), (7, .getfield 15, 3), (10, .goto 4, 3), (13, .iconst 1, 1), (14, .ireturn, 1)]
theorem ok_cod : TabOk mt_cod.2.1 tb_cod := by
  intro x hx
  have q : tb_cod.all (fun x => decide (decode jdk_42_method_152_code x.1 = .ok x.2)) = true := by decide +kernel
  exact of_decide_eq_true (List.all_eq_true.mp q x hx)
theorem pl_cod : plainFor mt_cod.1 = true := by first | decide +kernel | exact plainFor_of_name (by first | (simp [plainName, overriddenIn]; done) | decide +kernel)
theorem pd_cod : parseMethodDescriptor "()B" = some ⟨[], some .byte⟩ := by decide +kernel

set_option maxRecDepth 65536 in
set_option maxHeartbeats 4000000 in
theorem ct_cod {l : Launch} {Z : State} {a0 : Array Value} (G : Gd Z a0) {a : Addr} {x : Int32} (hx : fits .byte (.int x) = true) (h : Heap) (F : Fld Z h a "java/lang/String" "coder" "B" (.int x)) :
    Ct l Z EL1 mt_cod ({ frames := 0, cells := 0, slots := 0, locals := 0 } : Room) #[(.ref a)] h [] (fun v h' => v = some (.int x) ∧ h = h') := by
  refine Ct.of_wp pl_cod G.2.1 (Ls := #[.val (.ref a)]) rfl ?_
  obtain ⟨vC, fC, nC⟩ := G.2.2.1
  refine Wp.getS ok_cod fC (G.1 _ (List.mem_of_getElem? (i := 61) rfl)) Via.refl rfl ?_
  refine Wp.ifF ok_cod rfl rfl (show ¬ vC = (0 : Int32) from nC) ?_
  refine Wp.run ok_cod 1 7 #[.val (.ref a)] [(.ref a)] rfl ?_
  refine Wp.getF ok_cod F (G.1 _ (List.mem_of_getElem? (i := 29) rfl)) Via.refl rfl rfl ?_
  refine Wp.run ok_cod 1 14 #[.val (.ref a)] [(.int x)] rfl ?_
  exact Wp.retI ok_cod (t := .byte) rfl (by decide) rfl rfl hx ⟨rfl, rfl⟩

abbrev mt_len : Mth := (⟨"java/lang/String", "length", "()I"⟩, jdk_42_method_54_code, 1, some .int)
def tb_len : Tab := [(0, .aload_n 0, 1), (1, .getfield 9, 3), (4, .arraylength, 1), (5, .aload_n 0, 1), (6, .invokevirtual 335, 3), (9, .ishr, 1), (10, .ireturn, 1)]
theorem ok_len : TabOk mt_len.2.1 tb_len := by
  intro x hx
  have q : tb_len.all (fun x => decide (decode jdk_42_method_54_code x.1 = .ok x.2)) = true := by decide +kernel
  exact of_decide_eq_true (List.all_eq_true.mp q x hx)
theorem pl_len : plainFor mt_len.1 = true := by first | decide +kernel | exact plainFor_of_name (by first | (simp [plainName, overriddenIn]; done) | decide +kernel)
theorem pd_len : parseMethodDescriptor "()I" = some ⟨[], some .int⟩ := by decide +kernel

set_option maxRecDepth 65536 in
set_option maxHeartbeats 4000000 in
theorem ct_len {l : Launch} {Z : State} {a0 : Array Value} (G : Gd Z a0) {a : Addr} {cs : List Int32} (h : Heap) (S1 : Str Z h a cs) :
    Ct l Z EL1 mt_len ({ frames := 1, cells := 0, slots := 0, locals := 13 } : Room) #[(.ref a)] h [] (fun v h' => v = some (.int (Int32.ofNat cs.length)) ∧ h = h') := by
  refine Ct.of_wp pl_len G.2.1 (Ls := #[.val (.ref a)]) rfl ?_
  obtain ⟨b, V, A⟩ := S1.val
  refine Wp.run ok_len 1 1 #[.val (.ref a)] [(.ref a)] rfl ?_
  refine Wp.getF ok_len V (G.1 _ (List.mem_of_getElem? (i := 28) rfl)) Via.refl rfl rfl ?_
  refine Wp.alen ok_len A rfl rfl ?_
  refine Wp.run ok_len 1 6 #[.val (.ref a)] [(.ref a), (.int (Int32.ofNat ((byt cs).length)))] rfl ?_
  refine Wp.callV ok_len (a := a) (argsL := []) (rest := [(.int (Int32.ofNat ((byt cs).length)))]) (ct_cod G (x := 0) rfl h S1.cod) S1.exa G.2.1 (G.1 _ (List.mem_of_getElem? (i := 67) rfl)) (G.1 _ (List.mem_of_getElem? (i := 68) rfl)) (G.1 _ (List.mem_of_getElem? (i := 70) rfl)) (G.1 _ (List.mem_of_getElem? (i := 69) rfl)) (G.1 _ (List.mem_of_getElem? (i := 11) rfl)) (G.1 _ (List.mem_of_getElem? (i := 71) rfl)) rfl rfl (by decide) pd_cod rfl rfl (Nat.le_of_ble_eq_true rfl) (Nat.le_of_ble_eq_true rfl) (Nat.le_of_ble_eq_true rfl) (Nat.le_of_ble_eq_true rfl) all0 ?_
  rintro _ _ ⟨rfl, rfl⟩ -
  refine Wp.run ok_len 1 10 #[.val (.ref a)] [(.int ((Int32.ofNat ((byt cs).length)) >>> (0 &&& 31)))] rfl ?_
  refine Wp.at #[.val (.ref a)] [(.int (Int32.ofNat cs.length))] ⟨rfl, by simp [shr0]⟩ ?_
  exact Wp.retI ok_len (t := .int) rfl (by decide) rfl rfl rfl ⟨rfl, rfl⟩

set_option maxRecDepth 65536 in
set_option maxHeartbeats 4000000 in
theorem ct_leng {l : Launch} {Z : State} {a0 : Array Value} (G : Gd Z a0) {a : Addr} {cs : List Int32} (h : Heap) (S1 : StrG Z h a cs) :
    Ct l Z EL1 mt_len ({ frames := 1, cells := 0, slots := 0, locals := 13 } : Room) #[(.ref a)] h [] (fun v h' => v = some (.int (Int32.ofNat cs.length)) ∧ h = h') := by
  refine Ct.of_wp pl_len G.2.1 (Ls := #[.val (.ref a)]) rfl ?_
  have h31 := S1.len
  rcases S1 with S1 | S1
  · obtain ⟨b, V, A⟩ := S1.val
    refine Wp.run ok_len 1 1 #[.val (.ref a)] [(.ref a)] rfl ?_
    refine Wp.getF ok_len V (G.1 _ (List.mem_of_getElem? (i := 28) rfl)) Via.refl rfl rfl ?_
    refine Wp.alen ok_len A rfl rfl ?_
    refine Wp.run ok_len 1 6 #[.val (.ref a)] [(.ref a), (.int (Int32.ofNat ((byt cs).length)))] rfl ?_
    refine Wp.callV ok_len (a := a) (argsL := []) (rest := [(.int (Int32.ofNat ((byt cs).length)))]) (ct_cod G (x := 0) rfl h S1.cod) S1.exa G.2.1 (G.1 _ (List.mem_of_getElem? (i := 67) rfl)) (G.1 _ (List.mem_of_getElem? (i := 68) rfl)) (G.1 _ (List.mem_of_getElem? (i := 70) rfl)) (G.1 _ (List.mem_of_getElem? (i := 69) rfl)) (G.1 _ (List.mem_of_getElem? (i := 11) rfl)) (G.1 _ (List.mem_of_getElem? (i := 71) rfl)) rfl rfl (by decide) pd_cod rfl rfl (Nat.le_of_ble_eq_true rfl) (Nat.le_of_ble_eq_true rfl) (Nat.le_of_ble_eq_true rfl) (Nat.le_of_ble_eq_true rfl) all0 ?_
    rintro _ _ ⟨rfl, rfl⟩ -
    refine Wp.run ok_len 1 10 #[.val (.ref a)] [(.int ((Int32.ofNat ((byt cs).length)) >>> (0 &&& 31)))] rfl ?_
    refine Wp.at #[.val (.ref a)] [(.int (Int32.ofNat cs.length))] ⟨rfl, by simp [shr0]⟩ ?_
    exact Wp.retI ok_len (t := .int) rfl (by decide) rfl rfl rfl ⟨rfl, rfl⟩
  · obtain ⟨b, V, A⟩ := S1.val
    have z31 := A.len
    refine Wp.run ok_len 1 1 #[.val (.ref a)] [(.ref a)] rfl ?_
    refine Wp.getF ok_len V (G.1 _ (List.mem_of_getElem? (i := 28) rfl)) Via.refl rfl rfl ?_
    refine Wp.alen ok_len A rfl rfl ?_
    refine Wp.run ok_len 1 6 #[.val (.ref a)] [(.ref a), (.int (Int32.ofNat ((u16 cs).length)))] rfl ?_
    refine Wp.callV ok_len (a := a) (argsL := []) (rest := [(.int (Int32.ofNat ((u16 cs).length)))]) (ct_cod G (x := 1) rfl h S1.cod) S1.exa G.2.1 (G.1 _ (List.mem_of_getElem? (i := 67) rfl)) (G.1 _ (List.mem_of_getElem? (i := 68) rfl)) (G.1 _ (List.mem_of_getElem? (i := 70) rfl)) (G.1 _ (List.mem_of_getElem? (i := 69) rfl)) (G.1 _ (List.mem_of_getElem? (i := 11) rfl)) (G.1 _ (List.mem_of_getElem? (i := 71) rfl)) rfl rfl (by decide) pd_cod rfl rfl (Nat.le_of_ble_eq_true rfl) (Nat.le_of_ble_eq_true rfl) (Nat.le_of_ble_eq_true rfl) (Nat.le_of_ble_eq_true rfl) all0 ?_
    rintro _ _ ⟨rfl, rfl⟩ -
    refine Wp.run ok_len 1 10 #[.val (.ref a)] [(.int ((Int32.ofNat ((u16 cs).length)) >>> (1 &&& 31)))] rfl ?_
    refine Wp.at #[.val (.ref a)] [(.int (Int32.ofNat cs.length))] ⟨rfl, (by rw [n_shr1 z31, u16_len, Nat.mul_div_cancel_left _ (by decide : 0 < 2)] <;> rfl)⟩ ?_
    exact Wp.retI ok_len (t := .int) rfl (by decide) rfl rfl rfl ⟨rfl, rfl⟩

abbrev mt_isl : Mth := (⟨"java/lang/String", "isLatin1", "()Z"⟩, jdk_42_method_154_code, 1, some .boolean)
def tb_isl : Tab := [(0, .getstatic 38, 3), (3, .ifCond .eq 14, 3), (6, .aload_n 0, 1), (7, .getfield 15, 3), (10, .ifCond .ne 7, 3), (13, .iconst 1, 1), (14, .goto 4, 3), (17, .iconst 0, 1), (18, .ireturn, 1)]
theorem ok_isl : TabOk mt_isl.2.1 tb_isl := by
  intro x hx
  have q : tb_isl.all (fun x => decide (decode jdk_42_method_154_code x.1 = .ok x.2)) = true := by decide +kernel
  exact of_decide_eq_true (List.all_eq_true.mp q x hx)
theorem pl_isl : plainFor mt_isl.1 = true := by first | decide +kernel | exact plainFor_of_name (by first | (simp [plainName, overriddenIn]; done) | decide +kernel)
theorem pd_isl : parseMethodDescriptor "()Z" = some ⟨[], some .boolean⟩ := by decide +kernel

set_option maxRecDepth 65536 in
set_option maxHeartbeats 4000000 in
theorem ct_isl {l : Launch} {Z : State} {a0 : Array Value} (G : Gd Z a0) {a : Addr} (h : Heap) (F : Fld Z h a "java/lang/String" "coder" "B" (.int 0)) :
    Ct l Z EL1 mt_isl ({ frames := 0, cells := 0, slots := 0, locals := 0 } : Room) #[(.ref a)] h [] (fun v h' => v = some (.int 1) ∧ h = h') := by
  refine Ct.of_wp pl_isl G.2.1 (Ls := #[.val (.ref a)]) rfl ?_
  obtain ⟨vC, fC, nC⟩ := G.2.2.1
  refine Wp.getS ok_isl fC (G.1 _ (List.mem_of_getElem? (i := 61) rfl)) Via.refl rfl ?_
  refine Wp.ifF ok_isl rfl rfl (show ¬ vC = (0 : Int32) from nC) ?_
  refine Wp.run ok_isl 1 7 #[.val (.ref a)] [(.ref a)] rfl ?_
  refine Wp.getF ok_isl F (G.1 _ (List.mem_of_getElem? (i := 29) rfl)) Via.refl rfl rfl ?_
  refine Wp.ifF ok_isl rfl rfl (show 0 = (0 : Int32) from rfl) ?_
  refine Wp.run ok_isl 2 18 #[.val (.ref a)] [(.int (1 : Int32))] rfl ?_
  exact Wp.retI ok_isl (t := .boolean) rfl (by decide) rfl rfl rfl ⟨rfl, rfl⟩

set_option maxRecDepth 65536 in
set_option maxHeartbeats 4000000 in
theorem ct_isu {l : Launch} {Z : State} {a0 : Array Value} (G : Gd Z a0) {a : Addr} (h : Heap) (F : Fld Z h a "java/lang/String" "coder" "B" (.int 1)) :
    Ct l Z EL1 mt_isl ({ frames := 0, cells := 0, slots := 0, locals := 0 } : Room) #[(.ref a)] h [] (fun v h' => v = some (.int 0) ∧ h = h') := by
  refine Ct.of_wp pl_isl G.2.1 (Ls := #[.val (.ref a)]) rfl ?_
  obtain ⟨vC, fC, nC⟩ := G.2.2.1
  refine Wp.getS ok_isl fC (G.1 _ (List.mem_of_getElem? (i := 61) rfl)) Via.refl rfl ?_
  refine Wp.ifF ok_isl rfl rfl (show ¬ vC = (0 : Int32) from nC) ?_
  refine Wp.run ok_isl 1 7 #[.val (.ref a)] [(.ref a)] rfl ?_
  refine Wp.getF ok_isl F (G.1 _ (List.mem_of_getElem? (i := 29) rfl)) Via.refl rfl rfl ?_
  refine Wp.ifT ok_isl 17 rfl rfl (show ¬ 1 = (0 : Int32) from by decide) (by decide) (by decide) ?_
  refine Wp.run ok_isl 1 18 #[.val (.ref a)] [(.int (0 : Int32))] rfl ?_
  exact Wp.retI ok_isl (t := .boolean) rfl (by decide) rfl rfl rfl ⟨rfl, rfl⟩

abbrev mt_cen : Mth := (⟨"java/lang/StringLatin1", "canEncode", "(I)Z"⟩, jdk_43_method_4_code, 1, some .boolean)
def tb_cen : Tab := [(0, .iload_n 0, 1), (1, .ifCond .lt 14, 3), (4, .iload_n 0, 1), (5, .sipush 255, 3), (8, .if_icmp .gt 7, 3), (11, .iconst 1, 1), (12, .goto 4, 3), (15, .iconst 0, 1), (16, .ireturn, 1)]
theorem ok_cen : TabOk mt_cen.2.1 tb_cen := by
  intro x hx
  have q : tb_cen.all (fun x => decide (decode jdk_43_method_4_code x.1 = .ok x.2)) = true := by decide +kernel
  exact of_decide_eq_true (List.all_eq_true.mp q x hx)
theorem pl_cen : plainFor mt_cen.1 = true := by first | decide +kernel | exact plainFor_of_name (by first | (simp [plainName, overriddenIn]; done) | decide +kernel)
theorem pd_cen : parseMethodDescriptor "(I)Z" = some ⟨[.int], some .boolean⟩ := by decide +kernel

set_option maxRecDepth 65536 in
set_option maxHeartbeats 4000000 in
theorem ct_cen {l : Launch} {Z : State} {a0 : Array Value} (G : Gd Z a0) {c : Int32} (hc : 0 ≤ c.toInt ∧ c.toInt ≤ 255) (h : Heap)  :
    Ct l Z EL1 mt_cen ({ frames := 0, cells := 0, slots := 0, locals := 0 } : Room) #[(.int c)] h [] (fun v h' => v = some (.int 1) ∧ h = h') := by
  refine Ct.of_wp pl_cen G.2.1 (Ls := #[.val (.int c)]) rfl ?_
  refine Wp.run ok_cen 1 1 #[.val (.int c)] [(.int c)] rfl ?_
  refine Wp.ifF ok_cen rfl rfl (show ¬ c < (0 : Int32) from Int32.not_lt.mpr (Int32.le_iff_toInt_le.mpr (by simpa using hc.1))) ?_
  refine Wp.run ok_cen 2 8 #[.val (.int c)] [(.int (255 : Int32)), (.int c)] rfl ?_
  refine Wp.icmpF ok_cen rfl rfl (show ¬ (255 : Int32) < c from Int32.not_lt.mpr (Int32.le_iff_toInt_le.mpr (by simpa using hc.2))) ?_
  refine Wp.run ok_cen 2 16 #[.val (.int c)] [(.int (1 : Int32))] rfl ?_
  exact Wp.retI ok_cen (t := .boolean) rfl (by decide) rfl rfl rfl ⟨rfl, rfl⟩

abbrev mt_max : Mth := (⟨"java/lang/Math", "max", "(II)I"⟩, jdk_29_method_65_code, 2, some .int)
def tb_max : Tab := [(0, .iload_n 0, 1), (1, .iload_n 1, 1), (2, .if_icmp .lt 7, 3), (5, .iload_n 0, 1), (6, .goto 4, 3), (9, .iload_n 1, 1), (10, .ireturn, 1)]
theorem ok_max : TabOk mt_max.2.1 tb_max := by
  intro x hx
  have q : tb_max.all (fun x => decide (decode jdk_29_method_65_code x.1 = .ok x.2)) = true := by decide +kernel
  exact of_decide_eq_true (List.all_eq_true.mp q x hx)
theorem pl_max : plainFor mt_max.1 = true := by first | decide +kernel | exact plainFor_of_name (by first | (simp [plainName, overriddenIn]; done) | decide +kernel)
theorem pd_max : parseMethodDescriptor "(II)I" = some ⟨[.int, .int], some .int⟩ := by decide +kernel

set_option maxRecDepth 65536 in
set_option maxHeartbeats 4000000 in
theorem ct_max {l : Launch} {Z : State} {a0 : Array Value} (G : Gd Z a0) {x y : Int32} (h : Heap)  :
    Ct l Z EL1 mt_max ({ frames := 0, cells := 0, slots := 0, locals := 0 } : Room) #[(.int x), (.int y)] h [] (fun v h' => v = some (.int (if x < y then y else x)) ∧ h = h') := by
  refine Ct.of_wp pl_max G.2.1 (Ls := #[.val (.int x), .val (.int y)]) rfl ?_
  refine Wp.run ok_max 2 2 #[.val (.int x), .val (.int y)] [(.int y), (.int x)] rfl ?_
  refine Wp.icmp ok_max 9 rfl rfl (by decide) (by decide) (fun hc => ?_) (fun hc => ?_)
  · replace hc : x < y := hc
    refine Wp.run ok_max 1 10 #[.val (.int x), .val (.int y)] [(.int y)] rfl ?_
    exact Wp.retI ok_max (t := .int) rfl (by decide) rfl rfl rfl ⟨by rw [if_pos hc], rfl⟩
  · replace hc : ¬ x < y := hc
    refine Wp.run ok_max 2 10 #[.val (.int x), .val (.int y)] [(.int x)] rfl ?_
    exact Wp.retI ok_max (t := .int) rfl (by decide) rfl rfl rfl ⟨by rw [if_neg hc], rfl⟩

abbrev mt_min : Mth := (⟨"java/lang/Math", "min", "(II)I"⟩, jdk_29_method_69_code, 2, some .int)
def tb_min : Tab := [(0, .iload_n 0, 1), (1, .iload_n 1, 1), (2, .if_icmp .gt 7, 3), (5, .iload_n 0, 1), (6, .goto 4, 3), (9, .iload_n 1, 1), (10, .ireturn, 1)]
theorem ok_min : TabOk mt_min.2.1 tb_min := by
  intro x hx
  have q : tb_min.all (fun x => decide (decode jdk_29_method_69_code x.1 = .ok x.2)) = true := by decide +kernel
  exact of_decide_eq_true (List.all_eq_true.mp q x hx)
theorem pl_min : plainFor mt_min.1 = true := by first | decide +kernel | exact plainFor_of_name (by first | (simp [plainName, overriddenIn]; done) | decide +kernel)
theorem pd_min : parseMethodDescriptor "(II)I" = some ⟨[.int, .int], some .int⟩ := by decide +kernel

set_option maxRecDepth 65536 in
set_option maxHeartbeats 4000000 in
theorem ct_min {l : Launch} {Z : State} {a0 : Array Value} (G : Gd Z a0) {x y : Int32} (h : Heap)  :
    Ct l Z EL1 mt_min ({ frames := 0, cells := 0, slots := 0, locals := 0 } : Room) #[(.int x), (.int y)] h [] (fun v h' => v = some (.int (if y < x then y else x)) ∧ h = h') := by
  refine Ct.of_wp pl_min G.2.1 (Ls := #[.val (.int x), .val (.int y)]) rfl ?_
  refine Wp.run ok_min 2 2 #[.val (.int x), .val (.int y)] [(.int y), (.int x)] rfl ?_
  refine Wp.icmp ok_min 9 rfl rfl (by decide) (by decide) (fun hc => ?_) (fun hc => ?_)
  · replace hc : y < x := hc
    refine Wp.run ok_min 1 10 #[.val (.int x), .val (.int y)] [(.int y)] rfl ?_
    exact Wp.retI ok_min (t := .int) rfl (by decide) rfl rfl rfl ⟨by rw [if_pos hc], rfl⟩
  · replace hc : ¬ y < x := hc
    refine Wp.run ok_min 2 10 #[.val (.int x), .val (.int y)] [(.int x)] rfl ?_
    exact Wp.retI ok_min (t := .int) rfl (by decide) rfl rfl rfl ⟨by rw [if_neg hc], rfl⟩

abbrev mt_lic : Mth := (⟨"java/lang/StringLatin1", "indexOfChar", "([BIII)I"⟩, jdk_43_method_23_code, 6, some .int)
def tb_lic : Tab := [(0, .iload_n 1, 1), (1, .i2b, 1), (2, .istore 4, 2), (4, .iload_n 2, 1), (5, .istore 5, 2), (7, .iload 5, 2), (9, .iload_n 3, 1), (10, .if_icmp .ge 21, 3), (13, .aload_n 0, 1), (14, .iload 5, 2), (16, .baload, 1), (17, .iload 4, 2), (19, .if_icmp .ne 6, 3), (22, .iload 5, 2), (24, .ireturn, 1), (25, .iinc 5 1, 3), (28, .goto (-21), 3), (31, .iconst (-1), 1), (32, .ireturn, 1)]
theorem ok_lic : TabOk mt_lic.2.1 tb_lic := by
  intro x hx
  have q : tb_lic.all (fun x => decide (decode jdk_43_method_23_code x.1 = .ok x.2)) = true := by decide +kernel
  exact of_decide_eq_true (List.all_eq_true.mp q x hx)
theorem pl_lic : plainFor mt_lic.1 = true := by first | decide +kernel | exact plainFor_of_name (by first | (simp [plainName, overriddenIn]; done) | decide +kernel)
theorem pd_lic : parseMethodDescriptor "([BIII)I" = some ⟨[(.array .byte), .int, .int, .int], some .int⟩ := by decide +kernel

set_option maxRecDepth 65536 in
set_option maxHeartbeats 4000000 in
theorem lp_lic {l : Launch} {Z : State} {a0 : Array Value} (G : Gd Z a0) {b : Addr} {cs : List Int32} {c : Int32} {i0 : Nat} {h : Heap} (hl : Lat cs) (hc : 0 ≤ c.toInt ∧ c.toInt ≤ 255) (A : Ar Z h b .byte (byt cs)) (h31 : cs.length < 2 ^ 31) : ∀ (r i : Nat), i + r = cs.length → ixF (cs.drop i0) c i0 = ixF (cs.drop i) c i →
    Wp l Z EL1 mt_lic ({ frames := 0, cells := 0, slots := 0, locals := 0 } : Room) h [] 0 0 7 #[.val (.ref b), .val (.int c), .val (.int (Int32.ofNat i0)), .val (.int (Int32.ofNat cs.length)), .val (.int (lo8 c)), .val (.int (Int32.ofNat i))] [] (fun v h' => v = some (.int (ixF (cs.drop i0) c i0)) ∧ h = h') := by
  intro r
  induction r with
  | zero =>
    intro i hi hp
    refine Wp.run ok_lic 2 10 #[.val (.ref b), .val (.int c), .val (.int (Int32.ofNat i0)), .val (.int (Int32.ofNat cs.length)), .val (.int (lo8 c)), .val (.int (Int32.ofNat i))] [(.int (Int32.ofNat cs.length)), (.int (Int32.ofNat i))] rfl ?_
    refine Wp.icmpT ok_lic 31 rfl rfl (show ¬ (Int32.ofNat i) < (Int32.ofNat cs.length) from fun q => absurd ((n_lt (by omega) h31).mp q) (by omega)) (by decide) (by decide) ?_
    refine Wp.run ok_lic 1 32 #[.val (.ref b), .val (.int c), .val (.int (Int32.ofNat i0)), .val (.int (Int32.ofNat cs.length)), .val (.int (lo8 c)), .val (.int (Int32.ofNat i))] [(.int (-1 : Int32))] rfl ?_
    exact Wp.retI ok_lic (t := .int) rfl (by decide) rfl rfl rfl ⟨by rw [hp, List.drop_eq_nil_of_le (by omega)]; rfl, rfl⟩
  | succ r ih =>
    intro i hi hp
    obtain ⟨x, hx⟩ : ∃ c, cs[i]? = some c := ⟨_, List.getElem?_eq_getElem (by omega)⟩
    refine Wp.run ok_lic 2 10 #[.val (.ref b), .val (.int c), .val (.int (Int32.ofNat i0)), .val (.int (Int32.ofNat cs.length)), .val (.int (lo8 c)), .val (.int (Int32.ofNat i))] [(.int (Int32.ofNat cs.length)), (.int (Int32.ofNat i))] rfl ?_
    refine Wp.icmpF ok_lic rfl rfl (show (Int32.ofNat i) < (Int32.ofNat cs.length) from (n_lt (by omega) h31).mpr (by omega)) ?_
    refine Wp.run ok_lic 2 16 #[.val (.ref b), .val (.int c), .val (.int (Int32.ofNat i0)), .val (.int (Int32.ofNat cs.length)), .val (.int (lo8 c)), .val (.int (Int32.ofNat i))] [(.int (Int32.ofNat i)), (.ref b)] rfl ?_
    refine Wp.aget ok_lic A (i := i) (v := (.int (lo8 x))) rfl (by simp [hx]) rfl rfl rfl ?_
    refine Wp.run ok_lic 1 19 #[.val (.ref b), .val (.int c), .val (.int (Int32.ofNat i0)), .val (.int (Int32.ofNat cs.length)), .val (.int (lo8 c)), .val (.int (Int32.ofNat i))] [(.int (lo8 c)), (.int (lo8 x))] rfl ?_
    refine Wp.icmp ok_lic 25 rfl rfl (by decide) (by decide) (fun hd => ?_) (fun hd => ?_)
    · replace hd : ¬ (lo8 x) = (lo8 c) := hd
      refine Wp.run ok_lic 2 7 #[.val (.ref b), .val (.int c), .val (.int (Int32.ofNat i0)), .val (.int (Int32.ofNat cs.length)), .val (.int (lo8 c)), .val (.int ((Int32.ofNat i) + (1 : Int32)))] [] rfl ?_
      refine Wp.at #[.val (.ref b), .val (.int c), .val (.int (Int32.ofNat i0)), .val (.int (Int32.ofNat cs.length)), .val (.int (lo8 c)), .val (.int (Int32.ofNat (i + 1)))] [] ⟨by simp only [n_succ], rfl⟩ ?_
      refine ih (i + 1) (by omega) ?_
      rw [hp, ixF_cons hx, if_neg (fun e => hd (by rw [e]))]
    · replace hd : (lo8 x) = (lo8 c) := hd
      refine Wp.run ok_lic 1 24 #[.val (.ref b), .val (.int c), .val (.int (Int32.ofNat i0)), .val (.int (Int32.ofNat cs.length)), .val (.int (lo8 c)), .val (.int (Int32.ofNat i))] [(.int (Int32.ofNat i))] rfl ?_
      exact Wp.retI ok_lic (t := .int) rfl (by decide) rfl rfl rfl ⟨by rw [hp, ixF_cons hx, if_pos (lo8_inj (hl.at hx) hc hd)], rfl⟩

set_option maxRecDepth 65536 in
set_option maxHeartbeats 4000000 in
theorem ct_lic {l : Launch} {Z : State} {a0 : Array Value} (G : Gd Z a0) {b : Addr} {cs : List Int32} {c : Int32} {i0 : Nat} (hl : Lat cs) (hc : 0 ≤ c.toInt ∧ c.toInt ≤ 255) (hi : i0 ≤ cs.length) (h : Heap) (A : Ar Z h b .byte (byt cs)) :
    Ct l Z EL1 mt_lic ({ frames := 0, cells := 0, slots := 0, locals := 0 } : Room) #[(.ref b), (.int c), (.int (Int32.ofNat i0)), (.int (Int32.ofNat cs.length))] h [] (fun v h' => v = some (.int (ixF (cs.drop i0) c i0)) ∧ h = h') := by
  refine Ct.of_wp pl_lic G.2.1 (Ls := #[.val (.ref b), .val (.int c), .val (.int (Int32.ofNat i0)), .val (.int (Int32.ofNat cs.length)), .unset, .unset]) rfl ?_
  have h31 : cs.length < 2 ^ 31 := by simpa using A.len
  refine Wp.run ok_lic 5 7 #[.val (.ref b), .val (.int c), .val (.int (Int32.ofNat i0)), .val (.int (Int32.ofNat cs.length)), .val (.int (lo8 c)), .val (.int (Int32.ofNat i0))] [] rfl ?_
  refine Wp.at #[.val (.ref b), .val (.int c), .val (.int (Int32.ofNat i0)), .val (.int (Int32.ofNat cs.length)), .val (.int (lo8 c)), .val (.int (Int32.ofNat i0))] [] ⟨rfl, rfl⟩ ?_
  exact lp_lic G hl hc A h31 (cs.length - i0) i0 (by omega) rfl

abbrev mt_lix : Mth := (⟨"java/lang/StringLatin1", "indexOf", "([BIII)I"⟩, jdk_43_method_22_code, 4, some .int)
def tb_lix : Tab := [(0, .iload_n 1, 1), (1, .invokestatic 88, 3), (4, .ifCond .ne 5, 3), (7, .iconst (-1), 1), (8, .ireturn, 1), (9, .iload_n 2, 1), (10, .iconst 0, 1), (11, .invokestatic 92, 3), (14, .istore_n 2, 1), (15, .iload_n 3, 1), (16, .aload_n 0, 1), (17, .arraylength, 1), (18, .invokestatic 38, 3), (21, .istore_n 3, 1), (22, .iload_n 2, 1), (23, .iload_n 3, 1), (24, .if_icmp .lt 5, 3), (27, .iconst (-1), 1), (28, .ireturn, 1), (29, .aload_n 0, 1), (30, .iload_n 1, 1), (31, .iload_n 2, 1), (32, .iload_n 3, 1), (33, .invokestatic 95, 3), (36, .ireturn, 1)]
theorem ok_lix : TabOk mt_lix.2.1 tb_lix := by
  intro x hx
  have q : tb_lix.all (fun x => decide (decode jdk_43_method_22_code x.1 = .ok x.2)) = true := by decide +kernel
  exact of_decide_eq_true (List.all_eq_true.mp q x hx)
theorem pl_lix : plainFor mt_lix.1 = true := by first | decide +kernel | exact plainFor_of_name (by first | (simp [plainName, overriddenIn]; done) | decide +kernel)
theorem pd_lix : parseMethodDescriptor "([BIII)I" = some ⟨[(.array .byte), .int, .int, .int], some .int⟩ := by decide +kernel

set_option maxRecDepth 65536 in
set_option maxHeartbeats 4000000 in
theorem ct_lix {l : Launch} {Z : State} {a0 : Array Value} (G : Gd Z a0) {b : Addr} {cs : List Int32} {c : Int32} {i0 : Nat} (hl : Lat cs) (hc : 0 ≤ c.toInt ∧ c.toInt ≤ 255) (hi : i0 ≤ cs.length) (h : Heap) (A : Ar Z h b .byte (byt cs)) :
    Ct l Z EL1 mt_lix ({ frames := 1, cells := 0, slots := 0, locals := 17 } : Room) #[(.ref b), (.int c), (.int (Int32.ofNat i0)), (.int (Int32.ofNat cs.length))] h [] (fun v h' => v = some (.int (ixF (cs.drop i0) c i0)) ∧ h = h') := by
  refine Ct.of_wp pl_lix G.2.1 (Ls := #[.val (.ref b), .val (.int c), .val (.int (Int32.ofNat i0)), .val (.int (Int32.ofNat cs.length))]) rfl ?_
  have h31 : cs.length < 2 ^ 31 := by simpa using A.len
  refine Wp.run ok_lix 1 1 #[.val (.ref b), .val (.int c), .val (.int (Int32.ofNat i0)), .val (.int (Int32.ofNat cs.length))] [(.int c)] rfl ?_
  refine Wp.callS ok_lix (argsL := [(.int c)]) (rest := []) (ct_cen G hc h) G.2.1 (G.1 _ (List.mem_of_getElem? (i := 76) rfl)) (G.1 _ (List.mem_of_getElem? (i := 77) rfl)) (G.1 _ (List.mem_of_getElem? (i := 74) rfl)) (G.1 _ (List.mem_of_getElem? (i := 78) rfl)) rfl rfl (by decide) pd_cen rfl rfl (Nat.le_of_ble_eq_true rfl) (Nat.le_of_ble_eq_true rfl) (Nat.le_of_ble_eq_true rfl) (Nat.le_of_ble_eq_true rfl) all0 ?_
  rintro _ _ ⟨rfl, rfl⟩ -
  refine Wp.ifT ok_lix 9 rfl rfl (show ¬ 1 = (0 : Int32) from by decide) (by decide) (by decide) ?_
  refine Wp.run ok_lix 2 11 #[.val (.ref b), .val (.int c), .val (.int (Int32.ofNat i0)), .val (.int (Int32.ofNat cs.length))] [(.int (0 : Int32)), (.int (Int32.ofNat i0))] rfl ?_
  refine Wp.callS ok_lix (argsL := [(.int (Int32.ofNat i0)), (.int (0 : Int32))]) (rest := []) (ct_max G (x := Int32.ofNat i0) (y := 0) h) G.2.1 (G.1 _ (List.mem_of_getElem? (i := 79) rfl)) (G.1 _ (List.mem_of_getElem? (i := 80) rfl)) (G.1 _ (List.mem_of_getElem? (i := 81) rfl)) (G.1 _ (List.mem_of_getElem? (i := 82) rfl)) rfl rfl (by decide) pd_max rfl rfl (Nat.le_of_ble_eq_true rfl) (Nat.le_of_ble_eq_true rfl) (Nat.le_of_ble_eq_true rfl) (Nat.le_of_ble_eq_true rfl) all0 ?_
  rintro _ _ ⟨rfl, rfl⟩ -
  refine Wp.at #[.val (.ref b), .val (.int c), .val (.int (Int32.ofNat i0)), .val (.int (Int32.ofNat cs.length))] [(.int (Int32.ofNat i0))] ⟨rfl, (by rw [if_neg (Int32.ofNat_not_neg (by omega))] <;> rfl)⟩ ?_
  refine Wp.run ok_lix 3 17 #[.val (.ref b), .val (.int c), .val (.int (Int32.ofNat i0)), .val (.int (Int32.ofNat cs.length))] [(.ref b), (.int (Int32.ofNat cs.length))] rfl ?_
  refine Wp.alen ok_lix A rfl rfl ?_
  refine Wp.at #[.val (.ref b), .val (.int c), .val (.int (Int32.ofNat i0)), .val (.int (Int32.ofNat cs.length))] [(.int (Int32.ofNat cs.length)), (.int (Int32.ofNat cs.length))] ⟨rfl, by simp only [List.length_map]⟩ ?_
  refine Wp.callS ok_lix (argsL := [(.int (Int32.ofNat cs.length)), (.int (Int32.ofNat cs.length))]) (rest := []) (ct_min G (x := Int32.ofNat cs.length) (y := Int32.ofNat cs.length) h) G.2.1 (G.1 _ (List.mem_of_getElem? (i := 83) rfl)) (G.1 _ (List.mem_of_getElem? (i := 84) rfl)) (G.1 _ (List.mem_of_getElem? (i := 81) rfl)) (G.1 _ (List.mem_of_getElem? (i := 85) rfl)) rfl rfl (by decide) pd_min rfl rfl (Nat.le_of_ble_eq_true rfl) (Nat.le_of_ble_eq_true rfl) (Nat.le_of_ble_eq_true rfl) (Nat.le_of_ble_eq_true rfl) all0 ?_
  rintro _ _ ⟨rfl, rfl⟩ -
  refine Wp.at #[.val (.ref b), .val (.int c), .val (.int (Int32.ofNat i0)), .val (.int (Int32.ofNat cs.length))] [(.int (Int32.ofNat cs.length))] ⟨rfl, (by rw [ite_self] <;> rfl)⟩ ?_
  refine Wp.run ok_lix 3 24 #[.val (.ref b), .val (.int c), .val (.int (Int32.ofNat i0)), .val (.int (Int32.ofNat cs.length))] [(.int (Int32.ofNat cs.length)), (.int (Int32.ofNat i0))] rfl ?_
  refine Wp.icmp ok_lix 29 rfl rfl (by decide) (by decide) (fun hd => ?_) (fun hd => ?_)
  · replace hd : (Int32.ofNat i0) < (Int32.ofNat cs.length) := hd
    refine Wp.run ok_lix 4 33 #[.val (.ref b), .val (.int c), .val (.int (Int32.ofNat i0)), .val (.int (Int32.ofNat cs.length))] [(.int (Int32.ofNat cs.length)), (.int (Int32.ofNat i0)), (.int c), (.ref b)] rfl ?_
    refine Wp.callS ok_lix (argsL := [(.ref b), (.int c), (.int (Int32.ofNat i0)), (.int (Int32.ofNat cs.length))]) (rest := []) (ct_lic G hl hc hi h A) G.2.1 (G.1 _ (List.mem_of_getElem? (i := 135) rfl)) (G.1 _ (List.mem_of_getElem? (i := 136) rfl)) (G.1 _ (List.mem_of_getElem? (i := 74) rfl)) (G.1 _ (List.mem_of_getElem? (i := 137) rfl)) rfl rfl (by decide) pd_lic rfl rfl (Nat.le_of_ble_eq_true rfl) (Nat.le_of_ble_eq_true rfl) (Nat.le_of_ble_eq_true rfl) (Nat.le_of_ble_eq_true rfl) all0 ?_
    rintro _ _ ⟨rfl, rfl⟩ -
    exact Wp.retI ok_lix (t := .int) rfl (by decide) rfl rfl rfl ⟨rfl, rfl⟩
  · replace hd : ¬ (Int32.ofNat i0) < (Int32.ofNat cs.length) := hd
    refine Wp.run ok_lix 1 28 #[.val (.ref b), .val (.int c), .val (.int (Int32.ofNat i0)), .val (.int (Int32.ofNat cs.length))] [(.int (-1 : Int32))] rfl ?_
    exact Wp.retI ok_lix (t := .int) rfl (by decide) rfl rfl rfl ⟨by rw [List.drop_eq_nil_of_le (Nat.le_of_not_lt fun z => hd ((n_lt (by omega) h31).mpr z))]; rfl, rfl⟩

abbrev mt_uln : Mth := (⟨"java/lang/StringUTF16", "length", "([B)I"⟩, jdk_52_method_6_code, 1, some .int)
def tb_uln : Tab := [(0, .aload_n 0, 1), (1, .arraylength, 1), (2, .iconst 1, 1), (3, .ishr, 1), (4, .ireturn, 1)]
theorem ok_uln : TabOk mt_uln.2.1 tb_uln := by
  intro x hx
  have q : tb_uln.all (fun x => decide (decode jdk_52_method_6_code x.1 = .ok x.2)) = true := by decide +kernel
  exact of_decide_eq_true (List.all_eq_true.mp q x hx)
theorem pl_uln : plainFor mt_uln.1 = true := by first | decide +kernel | exact plainFor_of_name (by first | (simp [plainName, overriddenIn]; done) | decide +kernel)
theorem pd_uln : parseMethodDescriptor "([B)I" = some ⟨[(.array .byte)], some .int⟩ := by decide +kernel

set_option maxRecDepth 65536 in
set_option maxHeartbeats 4000000 in
theorem ct_uln {l : Launch} {Z : State} {a0 : Array Value} (G : Gd Z a0) {b : Addr} {vs : List Value} (h : Heap) (A : Ar Z h b .byte vs) :
    Ct l Z EL1 mt_uln ({ frames := 0, cells := 0, slots := 0, locals := 0 } : Room) #[(.ref b)] h [] (fun v h' => v = some (.int (Int32.ofNat (vs.length / 2))) ∧ h = h') := by
  refine Ct.of_wp pl_uln G.2.1 (Ls := #[.val (.ref b)]) rfl ?_
  have h31 := A.len
  refine Wp.run ok_uln 1 1 #[.val (.ref b)] [(.ref b)] rfl ?_
  refine Wp.alen ok_uln A rfl rfl ?_
  refine Wp.run ok_uln 2 4 #[.val (.ref b)] [(.int ((Int32.ofNat vs.length) >>> ((1 : Int32) &&& 31)))] rfl ?_
  refine Wp.at #[.val (.ref b)] [(.int (Int32.ofNat (vs.length / 2)))] ⟨rfl, (by rw [n_shr1 h31] <;> rfl)⟩ ?_
  exact Wp.retI ok_uln (t := .int) rfl (by decide) rfl rfl rfl ⟨rfl, rfl⟩

abbrev mt_pcf : Mth := (⟨"jdk/internal/util/Preconditions", "checkFromToIndex", "(IIILjava/util/function/BiFunction;)I"⟩, jdk_41_method_12_code, 4, some .int)
def tb_pcf : Tab := [(0, .iload_n 0, 1), (1, .ifCond .lt 13, 3), (4, .iload_n 0, 1), (5, .iload_n 1, 1), (6, .if_icmp .gt 8, 3), (9, .iload_n 1, 1), (10, .iload_n 2, 1), (11, .if_icmp .le 11, 3), (14, .aload_n 3, 1), (15, .iload_n 0, 1), (16, .iload_n 1, 1), (17, .iload_n 2, 1), (18, .invokestatic 99, 3), (21, .athrow, 1), (22, .iload_n 0, 1), (23, .ireturn, 1)]
theorem ok_pcf : TabOk mt_pcf.2.1 tb_pcf := by
  intro x hx
  have q : tb_pcf.all (fun x => decide (decode jdk_41_method_12_code x.1 = .ok x.2)) = true := by decide +kernel
  exact of_decide_eq_true (List.all_eq_true.mp q x hx)
theorem pl_pcf : plainFor mt_pcf.1 = true := by first | decide +kernel | exact plainFor_of_name (by first | (simp [plainName, overriddenIn]; done) | decide +kernel)
theorem pd_pcf : parseMethodDescriptor "(IIILjava/util/function/BiFunction;)I" = some ⟨[.int, .int, .int, (.object "java/util/function/BiFunction")], some .int⟩ := by decide +kernel

set_option maxRecDepth 65536 in
set_option maxHeartbeats 4000000 in
theorem ct_pcf {l : Launch} {Z : State} {a0 : Array Value} (G : Gd Z a0) {i j m : Nat} (hi : i ≤ j) (hj : j ≤ m) (h31 : m < 2 ^ 31) {f : Value} (hf : f.isRef = true) (h : Heap) :
    Ct l Z EL1 mt_pcf ({ frames := 0, cells := 0, slots := 0, locals := 0 } : Room) #[.int (Int32.ofNat i), .int (Int32.ofNat j), .int (Int32.ofNat m), f] h [] (fun v h' => v = some (.int (Int32.ofNat i)) ∧ h = h') := by
  rcases ref_cases hf with rfl | ⟨f, rfl⟩
  · refine Ct.of_wp pl_pcf G.2.1 (Ls := #[.val (.int (Int32.ofNat i)), .val (.int (Int32.ofNat j)), .val (.int (Int32.ofNat m)), .val .null]) rfl ?_
    refine Wp.run ok_pcf 1 1 #[.val (.int (Int32.ofNat i)), .val (.int (Int32.ofNat j)), .val (.int (Int32.ofNat m)), .val .null] [(.int (Int32.ofNat i))] rfl ?_
    refine Wp.ifF ok_pcf rfl rfl (show ¬ (Int32.ofNat i) < (0 : Int32) from Int32.ofNat_not_neg (by omega)) ?_
    refine Wp.run ok_pcf 2 6 #[.val (.int (Int32.ofNat i)), .val (.int (Int32.ofNat j)), .val (.int (Int32.ofNat m)), .val .null] [(.int (Int32.ofNat j)), (.int (Int32.ofNat i))] rfl ?_
    refine Wp.icmpF ok_pcf rfl rfl (show ¬ (Int32.ofNat j) < (Int32.ofNat i) from fun q => absurd ((n_lt (by omega) (by omega)).mp q) (by omega)) ?_
    refine Wp.run ok_pcf 2 11 #[.val (.int (Int32.ofNat i)), .val (.int (Int32.ofNat j)), .val (.int (Int32.ofNat m)), .val .null] [(.int (Int32.ofNat m)), (.int (Int32.ofNat j))] rfl ?_
    refine Wp.icmpT ok_pcf 22 rfl rfl (show ¬ (Int32.ofNat m) < (Int32.ofNat j) from fun q => absurd ((n_lt (by omega) (by omega)).mp q) (by omega)) (by decide) (by decide) ?_
    refine Wp.run ok_pcf 1 23 #[.val (.int (Int32.ofNat i)), .val (.int (Int32.ofNat j)), .val (.int (Int32.ofNat m)), .val .null] [(.int (Int32.ofNat i))] rfl ?_
    exact Wp.retI ok_pcf (t := .int) rfl (by decide) rfl rfl rfl ⟨rfl, rfl⟩
  · refine Ct.of_wp pl_pcf G.2.1 (Ls := #[.val (.int (Int32.ofNat i)), .val (.int (Int32.ofNat j)), .val (.int (Int32.ofNat m)), .val (.ref f)]) rfl ?_
    refine Wp.run ok_pcf 1 1 #[.val (.int (Int32.ofNat i)), .val (.int (Int32.ofNat j)), .val (.int (Int32.ofNat m)), .val (.ref f)] [(.int (Int32.ofNat i))] rfl ?_
    refine Wp.ifF ok_pcf rfl rfl (show ¬ (Int32.ofNat i) < (0 : Int32) from Int32.ofNat_not_neg (by omega)) ?_
    refine Wp.run ok_pcf 2 6 #[.val (.int (Int32.ofNat i)), .val (.int (Int32.ofNat j)), .val (.int (Int32.ofNat m)), .val (.ref f)] [(.int (Int32.ofNat j)), (.int (Int32.ofNat i))] rfl ?_
    refine Wp.icmpF ok_pcf rfl rfl (show ¬ (Int32.ofNat j) < (Int32.ofNat i) from fun q => absurd ((n_lt (by omega) (by omega)).mp q) (by omega)) ?_
    refine Wp.run ok_pcf 2 11 #[.val (.int (Int32.ofNat i)), .val (.int (Int32.ofNat j)), .val (.int (Int32.ofNat m)), .val (.ref f)] [(.int (Int32.ofNat m)), (.int (Int32.ofNat j))] rfl ?_
    refine Wp.icmpT ok_pcf 22 rfl rfl (show ¬ (Int32.ofNat m) < (Int32.ofNat j) from fun q => absurd ((n_lt (by omega) (by omega)).mp q) (by omega)) (by decide) (by decide) ?_
    refine Wp.run ok_pcf 1 23 #[.val (.int (Int32.ofNat i)), .val (.int (Int32.ofNat j)), .val (.int (Int32.ofNat m)), .val (.ref f)] [(.int (Int32.ofNat i))] rfl ?_
    exact Wp.retI ok_pcf (t := .int) rfl (by decide) rfl rfl rfl ⟨rfl, rfl⟩

abbrev mt_cbb : Mth := (⟨"java/lang/String", "checkBoundsBeginEnd", "(III)V"⟩, jdk_42_method_158_code, 3, none)
def tb_cbb : Tab := [(0, .iload_n 0, 1), (1, .iload_n 1, 1), (2, .iload_n 2, 1), (3, .getstatic 1053, 3), (6, .invokestatic 1062, 3), (9, .pop, 1), (10, .return_, 1)]
theorem ok_cbb : TabOk mt_cbb.2.1 tb_cbb := by
  intro x hx
  have q : tb_cbb.all (fun x => decide (decode jdk_42_method_158_code x.1 = .ok x.2)) = true := by decide +kernel
  exact of_decide_eq_true (List.all_eq_true.mp q x hx)
theorem pl_cbb : plainFor mt_cbb.1 = true := by first | decide +kernel | exact plainFor_of_name (by first | (simp [plainName, overriddenIn]; done) | decide +kernel)
theorem pd_cbb : parseMethodDescriptor "(III)V" = some ⟨[.int, .int, .int], none⟩ := by decide +kernel

set_option maxRecDepth 65536 in
set_option maxHeartbeats 4000000 in
theorem ct_cbb {l : Launch} {Z : State} {a0 : Array Value} (G : Gd Z a0) {i j m : Nat} (hi : i ≤ j) (hj : j ≤ m) (h31 : m < 2 ^ 31) (h : Heap)  :
    Ct l Z EL1 mt_cbb ({ frames := 1, cells := 0, slots := 0, locals := 15 } : Room) #[(.int (Int32.ofNat i)), (.int (Int32.ofNat j)), (.int (Int32.ofNat m))] h [] (fun v h' => v = none ∧ h = h') := by
  refine Ct.of_wp pl_cbb G.2.1 (Ls := #[.val (.int (Int32.ofNat i)), .val (.int (Int32.ofNat j)), .val (.int (Int32.ofNat m))]) rfl ?_
  obtain ⟨vF, fF, rF⟩ := G.2.2.2.1
  refine Wp.run ok_cbb 3 3 #[.val (.int (Int32.ofNat i)), .val (.int (Int32.ofNat j)), .val (.int (Int32.ofNat m))] [(.int (Int32.ofNat m)), (.int (Int32.ofNat j)), (.int (Int32.ofNat i))] rfl ?_
  refine Wp.getS ok_cbb fF (G.1 _ (List.mem_of_getElem? (i := 177) rfl)) Via.refl rfl ?_
  refine Wp.callS ok_cbb (argsL := [(.int (Int32.ofNat i)), (.int (Int32.ofNat j)), (.int (Int32.ofNat m)), vF]) (rest := []) (ct_pcf G hi hj h31 rF h) G.2.1 (G.1 _ (List.mem_of_getElem? (i := 179) rfl)) (G.1 _ (List.mem_of_getElem? (i := 180) rfl)) (G.1 _ (List.mem_of_getElem? (i := 178) rfl)) (G.1 _ (List.mem_of_getElem? (i := 181) rfl)) rfl rfl (by decide) pd_pcf rfl rfl (Nat.le_of_ble_eq_true rfl) (Nat.le_of_ble_eq_true rfl) (Nat.le_of_ble_eq_true rfl) (Nat.le_of_ble_eq_true rfl) all0 ?_
  rintro _ _ ⟨rfl, rfl⟩ -
  refine Wp.run ok_cbb 1 10 #[.val (.int (Int32.ofNat i)), .val (.int (Int32.ofNat j)), .val (.int (Int32.ofNat m))] [] rfl ?_
  exact Wp.ret0 ok_cbb rfl rfl rfl ⟨rfl, rfl⟩

abbrev mt_ucb : Mth := (⟨"java/lang/StringUTF16", "checkBoundsBeginEnd", "(II[B)V"⟩, jdk_52_method_93_code, 3, none)
def tb_ucb : Tab := [(0, .iload_n 0, 1), (1, .iload_n 1, 1), (2, .aload_n 2, 1), (3, .invokestatic 48, 3), (6, .invokestatic 241, 3), (9, .return_, 1)]
theorem ok_ucb : TabOk mt_ucb.2.1 tb_ucb := by
  intro x hx
  have q : tb_ucb.all (fun x => decide (decode jdk_52_method_93_code x.1 = .ok x.2)) = true := by decide +kernel
  exact of_decide_eq_true (List.all_eq_true.mp q x hx)
theorem pl_ucb : plainFor mt_ucb.1 = true := by first | decide +kernel | exact plainFor_of_name (by first | (simp [plainName, overriddenIn]; done) | decide +kernel)
theorem pd_ucb : parseMethodDescriptor "(II[B)V" = some ⟨[.int, .int, (.array .byte)], none⟩ := by decide +kernel

set_option maxRecDepth 65536 in
set_option maxHeartbeats 4000000 in
theorem ct_ucb {l : Launch} {Z : State} {a0 : Array Value} (G : Gd Z a0) {b : Addr} {vs : List Value} {i j : Nat} (hi : i ≤ j) (hj : j ≤ vs.length / 2) (h : Heap) (A : Ar Z h b .byte vs) :
    Ct l Z EL1 mt_ucb ({ frames := 2, cells := 0, slots := 0, locals := 29 } : Room) #[(.int (Int32.ofNat i)), (.int (Int32.ofNat j)), (.ref b)] h [] (fun v h' => v = none ∧ h = h') := by
  refine Ct.of_wp pl_ucb G.2.1 (Ls := #[.val (.int (Int32.ofNat i)), .val (.int (Int32.ofNat j)), .val (.ref b)]) rfl ?_
  have h31 := A.len
  refine Wp.run ok_ucb 3 3 #[.val (.int (Int32.ofNat i)), .val (.int (Int32.ofNat j)), .val (.ref b)] [(.ref b), (.int (Int32.ofNat j)), (.int (Int32.ofNat i))] rfl ?_
  refine Wp.callS ok_ucb (argsL := [(.ref b)]) (rest := [(.int (Int32.ofNat j)), (.int (Int32.ofNat i))]) (ct_uln G h A) G.2.1 (G.1 _ (List.mem_of_getElem? (i := 171) rfl)) (G.1 _ (List.mem_of_getElem? (i := 172) rfl)) (G.1 _ (List.mem_of_getElem? (i := 120) rfl)) (G.1 _ (List.mem_of_getElem? (i := 173) rfl)) rfl rfl (by decide) pd_uln rfl rfl (Nat.le_of_ble_eq_true rfl) (Nat.le_of_ble_eq_true rfl) (Nat.le_of_ble_eq_true rfl) (Nat.le_of_ble_eq_true rfl) all0 ?_
  rintro _ _ ⟨rfl, rfl⟩ -
  refine Wp.callS ok_ucb (argsL := [(.int (Int32.ofNat i)), (.int (Int32.ofNat j)), (.int (Int32.ofNat (vs.length / 2)))]) (rest := []) (ct_cbb G hi hj (by omega) h) G.2.1 (G.1 _ (List.mem_of_getElem? (i := 174) rfl)) (G.1 _ (List.mem_of_getElem? (i := 175) rfl)) (G.1 _ (List.mem_of_getElem? (i := 11) rfl)) (G.1 _ (List.mem_of_getElem? (i := 176) rfl)) rfl rfl (by decide) pd_cbb rfl rfl (Nat.le_of_ble_eq_true rfl) (Nat.le_of_ble_eq_true rfl) (Nat.le_of_ble_eq_true rfl) (Nat.le_of_ble_eq_true rfl) all0 ?_
  rintro _ _ ⟨rfl, rfl⟩ -
  exact Wp.ret0 ok_ucb rfl rfl rfl ⟨rfl, rfl⟩

abbrev mt_uic : Mth := (⟨"java/lang/StringUTF16", "indexOfCharUnsafe", "([BIII)I"⟩, jdk_52_method_48_code, 5, some .int)
def tb_uic : Tab := [(0, .iload_n 2, 1), (1, .istore 4, 2), (3, .iload 4, 2), (5, .iload_n 3, 1), (6, .if_icmp .ge 22, 3), (9, .aload_n 0, 1), (10, .iload 4, 2), (12, .invokestatic 71, 3), (15, .iload_n 1, 1), (16, .if_icmp .ne 6, 3), (19, .iload 4, 2), (21, .ireturn, 1), (22, .iinc 4 1, 3), (25, .goto (-22), 3), (28, .iconst (-1), 1), (29, .ireturn, 1)]
theorem ok_uic : TabOk mt_uic.2.1 tb_uic := by
  intro x hx
  have q : tb_uic.all (fun x => decide (decode jdk_52_method_48_code x.1 = .ok x.2)) = true := by decide +kernel
  exact of_decide_eq_true (List.all_eq_true.mp q x hx)
theorem pl_uic : plainFor mt_uic.1 = true := by first | decide +kernel | exact plainFor_of_name (by first | (simp [plainName, overriddenIn]; done) | decide +kernel)
theorem pd_uic : parseMethodDescriptor "([BIII)I" = some ⟨[(.array .byte), .int, .int, .int], some .int⟩ := by decide +kernel

set_option maxRecDepth 65536 in
set_option maxHeartbeats 4000000 in
theorem lp_uic {l : Launch} {Z : State} {a0 : Array Value} (G : Gd Z a0) {b : Addr} {cs : List Int32} {c : Int32} {i0 : Nat} {h : Heap} (hw : W16 cs) (A : Ar Z h b .byte (u16 cs)) (h31 : 2 * cs.length < 2 ^ 31) : ∀ (r i : Nat), i + r = cs.length → ixF (cs.drop i0) c i0 = ixF (cs.drop i) c i →
    Wp l Z EL1 mt_uic ({ frames := 1, cells := 0, slots := 0, locals := 13 } : Room) h [] 0 0 3 #[.val (.ref b), .val (.int c), .val (.int (Int32.ofNat i0)), .val (.int (Int32.ofNat cs.length)), .val (.int (Int32.ofNat i))] [] (fun v h' => v = some (.int (ixF (cs.drop i0) c i0)) ∧ h = h') := by
  intro r
  induction r with
  | zero =>
    intro i hi hp
    refine Wp.run ok_uic 2 6 #[.val (.ref b), .val (.int c), .val (.int (Int32.ofNat i0)), .val (.int (Int32.ofNat cs.length)), .val (.int (Int32.ofNat i))] [(.int (Int32.ofNat cs.length)), (.int (Int32.ofNat i))] rfl ?_
    refine Wp.icmpT ok_uic 28 rfl rfl (show ¬ (Int32.ofNat i) < (Int32.ofNat cs.length) from fun q => absurd ((n_lt (by omega) (by omega)).mp q) (by omega)) (by decide) (by decide) ?_
    refine Wp.run ok_uic 1 29 #[.val (.ref b), .val (.int c), .val (.int (Int32.ofNat i0)), .val (.int (Int32.ofNat cs.length)), .val (.int (Int32.ofNat i))] [(.int (-1 : Int32))] rfl ?_
    exact Wp.retI ok_uic (t := .int) rfl (by decide) rfl rfl rfl ⟨by rw [hp, List.drop_eq_nil_of_le (by omega)]; rfl, rfl⟩
  | succ r ih =>
    intro i hi hp
    obtain ⟨x, hx⟩ : ∃ c, cs[i]? = some c := ⟨_, List.getElem?_eq_getElem (by omega)⟩
    refine Wp.run ok_uic 2 6 #[.val (.ref b), .val (.int c), .val (.int (Int32.ofNat i0)), .val (.int (Int32.ofNat cs.length)), .val (.int (Int32.ofNat i))] [(.int (Int32.ofNat cs.length)), (.int (Int32.ofNat i))] rfl ?_
    refine Wp.icmpF ok_uic rfl rfl (show (Int32.ofNat i) < (Int32.ofNat cs.length) from (n_lt (by omega) (by omega)).mpr (by omega)) ?_
    refine Wp.run ok_uic 2 12 #[.val (.ref b), .val (.int c), .val (.int (Int32.ofNat i0)), .val (.int (Int32.ofNat cs.length)), .val (.int (Int32.ofNat i))] [(.int (Int32.ofNat i)), (.ref b)] rfl ?_
    refine Wp.callS ok_uic (argsL := [(.ref b), (.int (Int32.ofNat i))]) (rest := []) (ct_gch G hx (hw.at hx) h A) G.2.1 (G.1 _ (List.mem_of_getElem? (i := 156) rfl)) (G.1 _ (List.mem_of_getElem? (i := 157) rfl)) (G.1 _ (List.mem_of_getElem? (i := 120) rfl)) (G.1 _ (List.mem_of_getElem? (i := 158) rfl)) rfl rfl (by decide) pd_gch rfl rfl (Nat.le_of_ble_eq_true rfl) (Nat.le_of_ble_eq_true rfl) (Nat.le_of_ble_eq_true rfl) (Nat.le_of_ble_eq_true rfl) all0 ?_
    rintro _ _ ⟨rfl, rfl⟩ -
    refine Wp.run ok_uic 1 16 #[.val (.ref b), .val (.int c), .val (.int (Int32.ofNat i0)), .val (.int (Int32.ofNat cs.length)), .val (.int (Int32.ofNat i))] [(.int c), (.int x)] rfl ?_
    refine Wp.icmp ok_uic 22 rfl rfl (by decide) (by decide) (fun hd => ?_) (fun hd => ?_)
    · replace hd : ¬ x = c := hd
      refine Wp.run ok_uic 2 3 #[.val (.ref b), .val (.int c), .val (.int (Int32.ofNat i0)), .val (.int (Int32.ofNat cs.length)), .val (.int ((Int32.ofNat i) + (1 : Int32)))] [] rfl ?_
      refine Wp.at #[.val (.ref b), .val (.int c), .val (.int (Int32.ofNat i0)), .val (.int (Int32.ofNat cs.length)), .val (.int (Int32.ofNat (i + 1)))] [] ⟨by simp only [n_succ], rfl⟩ ?_
      refine Wp.up (Nat.le_of_ble_eq_true rfl) (Nat.le_of_ble_eq_true rfl) (Nat.le_of_ble_eq_true rfl) (Nat.le_of_ble_eq_true rfl) all0 (ih (i + 1) (by omega) ?_)
      rw [hp, ixF_cons hx, if_neg hd]
    · replace hd : x = c := hd
      refine Wp.run ok_uic 1 21 #[.val (.ref b), .val (.int c), .val (.int (Int32.ofNat i0)), .val (.int (Int32.ofNat cs.length)), .val (.int (Int32.ofNat i))] [(.int (Int32.ofNat i))] rfl ?_
      exact Wp.retI ok_uic (t := .int) rfl (by decide) rfl rfl rfl ⟨by rw [hp, ixF_cons hx, if_pos hd], rfl⟩

set_option maxRecDepth 65536 in
set_option maxHeartbeats 4000000 in
theorem ct_uic {l : Launch} {Z : State} {a0 : Array Value} (G : Gd Z a0) {b : Addr} {cs : List Int32} {c : Int32} {i0 : Nat} (hw : W16 cs) (hi : i0 ≤ cs.length) (h : Heap) (A : Ar Z h b .byte (u16 cs)) :
    Ct l Z EL1 mt_uic ({ frames := 1, cells := 0, slots := 0, locals := 13 } : Room) #[(.ref b), (.int c), (.int (Int32.ofNat i0)), (.int (Int32.ofNat cs.length))] h [] (fun v h' => v = some (.int (ixF (cs.drop i0) c i0)) ∧ h = h') := by
  refine Ct.of_wp pl_uic G.2.1 (Ls := #[.val (.ref b), .val (.int c), .val (.int (Int32.ofNat i0)), .val (.int (Int32.ofNat cs.length)), .unset]) rfl ?_
  have h31 : 2 * cs.length < 2 ^ 31 := by have z := A.len; rwa [u16_len] at z
  refine Wp.run ok_uic 2 3 #[.val (.ref b), .val (.int c), .val (.int (Int32.ofNat i0)), .val (.int (Int32.ofNat cs.length)), .val (.int (Int32.ofNat i0))] [] rfl ?_
  refine Wp.at #[.val (.ref b), .val (.int c), .val (.int (Int32.ofNat i0)), .val (.int (Int32.ofNat cs.length)), .val (.int (Int32.ofNat i0))] [] ⟨rfl, rfl⟩ ?_
  exact lp_uic G hw A h31 (cs.length - i0) i0 (by omega) rfl

abbrev mt_ui1 : Mth := (⟨"java/lang/StringUTF16", "indexOfChar", "([BIII)I"⟩, jdk_52_method_47_code, 4, some .int)
def tb_ui1 : Tab := [(0, .iload_n 2, 1), (1, .iload_n 3, 1), (2, .aload_n 0, 1), (3, .invokestatic 96, 3), (6, .aload_n 0, 1), (7, .iload_n 1, 1), (8, .iload_n 2, 1), (9, .iload_n 3, 1), (10, .invokestatic 244, 3), (13, .ireturn, 1)]
theorem ok_ui1 : TabOk mt_ui1.2.1 tb_ui1 := by
  intro x hx
  have q : tb_ui1.all (fun x => decide (decode jdk_52_method_47_code x.1 = .ok x.2)) = true := by decide +kernel
  exact of_decide_eq_true (List.all_eq_true.mp q x hx)
theorem pl_ui1 : plainFor mt_ui1.1 = true := by first | decide +kernel | exact plainFor_of_name (by first | (simp [plainName, overriddenIn]; done) | decide +kernel)
theorem pd_ui1 : parseMethodDescriptor "([BIII)I" = some ⟨[(.array .byte), .int, .int, .int], some .int⟩ := by decide +kernel

set_option maxRecDepth 65536 in
set_option maxHeartbeats 4000000 in
theorem ct_ui1 {l : Launch} {Z : State} {a0 : Array Value} (G : Gd Z a0) {b : Addr} {cs : List Int32} {c : Int32} {i0 : Nat} (hw : W16 cs) (hi : i0 ≤ cs.length) (h : Heap) (A : Ar Z h b .byte (u16 cs)) :
    Ct l Z EL1 mt_ui1 ({ frames := 3, cells := 0, slots := 0, locals := 43 } : Room) #[(.ref b), (.int c), (.int (Int32.ofNat i0)), (.int (Int32.ofNat cs.length))] h [] (fun v h' => v = some (.int (ixF (cs.drop i0) c i0)) ∧ h = h') := by
  refine Ct.of_wp pl_ui1 G.2.1 (Ls := #[.val (.ref b), .val (.int c), .val (.int (Int32.ofNat i0)), .val (.int (Int32.ofNat cs.length))]) rfl ?_
  refine Wp.run ok_ui1 3 3 #[.val (.ref b), .val (.int c), .val (.int (Int32.ofNat i0)), .val (.int (Int32.ofNat cs.length))] [(.ref b), (.int (Int32.ofNat cs.length)), (.int (Int32.ofNat i0))] rfl ?_
  refine Wp.callS ok_ui1 (argsL := [(.int (Int32.ofNat i0)), (.int (Int32.ofNat cs.length)), (.ref b)]) (rest := []) (ct_ucb G hi (by rw [u16_len]; omega) h A) G.2.1 (G.1 _ (List.mem_of_getElem? (i := 168) rfl)) (G.1 _ (List.mem_of_getElem? (i := 169) rfl)) (G.1 _ (List.mem_of_getElem? (i := 120) rfl)) (G.1 _ (List.mem_of_getElem? (i := 170) rfl)) rfl rfl (by decide) pd_ucb rfl rfl (Nat.le_of_ble_eq_true rfl) (Nat.le_of_ble_eq_true rfl) (Nat.le_of_ble_eq_true rfl) (Nat.le_of_ble_eq_true rfl) all0 ?_
  rintro _ _ ⟨rfl, rfl⟩ -
  refine Wp.run ok_ui1 4 10 #[.val (.ref b), .val (.int c), .val (.int (Int32.ofNat i0)), .val (.int (Int32.ofNat cs.length))] [(.int (Int32.ofNat cs.length)), (.int (Int32.ofNat i0)), (.int c), (.ref b)] rfl ?_
  refine Wp.callS ok_ui1 (argsL := [(.ref b), (.int c), (.int (Int32.ofNat i0)), (.int (Int32.ofNat cs.length))]) (rest := []) (ct_uic G hw hi h A) G.2.1 (G.1 _ (List.mem_of_getElem? (i := 182) rfl)) (G.1 _ (List.mem_of_getElem? (i := 183) rfl)) (G.1 _ (List.mem_of_getElem? (i := 120) rfl)) (G.1 _ (List.mem_of_getElem? (i := 184) rfl)) rfl rfl (by decide) pd_uic rfl rfl (Nat.le_of_ble_eq_true rfl) (Nat.le_of_ble_eq_true rfl) (Nat.le_of_ble_eq_true rfl) (Nat.le_of_ble_eq_true rfl) all0 ?_
  rintro _ _ ⟨rfl, rfl⟩ -
  exact Wp.retI ok_ui1 (t := .int) rfl (by decide) rfl rfl rfl ⟨rfl, rfl⟩

abbrev mt_uix : Mth := (⟨"java/lang/StringUTF16", "indexOf", "([BIII)I"⟩, jdk_52_method_40_code, 4, some .int)
def tb_uix : Tab := [(0, .iload_n 2, 1), (1, .iconst 0, 1), (2, .invokestatic 224, 3), (5, .istore_n 2, 1), (6, .iload_n 3, 1), (7, .aload_n 0, 1), (8, .arraylength, 1), (9, .iconst 1, 1), (10, .ishr, 1), (11, .invokestatic 183, 3), (14, .istore_n 3, 1), (15, .iload_n 2, 1), (16, .iload_n 3, 1), (17, .if_icmp .lt 5, 3), (20, .iconst (-1), 1), (21, .ireturn, 1), (22, .iload_n 1, 1), (23, .ldc 227, 2), (25, .if_icmp .ge 11, 3), (28, .aload_n 0, 1), (29, .iload_n 1, 1), (30, .iload_n 2, 1), (31, .iload_n 3, 1), (32, .invokestatic 228, 3), (35, .ireturn, 1), (36, .aload_n 0, 1), (37, .iload_n 1, 1), (38, .iload_n 2, 1), (39, .iload_n 3, 1), (40, .invokestatic 232, 3), (43, .ireturn, 1)]
theorem ok_uix : TabOk mt_uix.2.1 tb_uix := by
  intro x hx
  have q : tb_uix.all (fun x => decide (decode jdk_52_method_40_code x.1 = .ok x.2)) = true := by decide +kernel
  exact of_decide_eq_true (List.all_eq_true.mp q x hx)
theorem pl_uix : plainFor mt_uix.1 = true := by first | decide +kernel | exact plainFor_of_name (by first | (simp [plainName, overriddenIn]; done) | decide +kernel)
theorem pd_uix : parseMethodDescriptor "([BIII)I" = some ⟨[(.array .byte), .int, .int, .int], some .int⟩ := by decide +kernel

set_option maxRecDepth 65536 in
set_option maxHeartbeats 4000000 in
theorem ct_uix {l : Launch} {Z : State} {a0 : Array Value} (G : Gd Z a0) {b : Addr} {cs : List Int32} {c : Int32} {i0 : Nat} (hw : W16 cs) (hc : 0 ≤ c.toInt ∧ c.toInt ≤ 255) (hi : i0 ≤ cs.length) (h : Heap) (A : Ar Z h b .byte (u16 cs)) :
    Ct l Z EL1 mt_uix ({ frames := 4, cells := 0, slots := 0, locals := 58 } : Room) #[(.ref b), (.int c), (.int (Int32.ofNat i0)), (.int (Int32.ofNat cs.length))] h [] (fun v h' => v = some (.int (ixF (cs.drop i0) c i0)) ∧ h = h') := by
  refine Ct.of_wp pl_uix G.2.1 (Ls := #[.val (.ref b), .val (.int c), .val (.int (Int32.ofNat i0)), .val (.int (Int32.ofNat cs.length))]) rfl ?_
  have z31 := A.len
  have h31 : 2 * cs.length < 2 ^ 31 := by rwa [u16_len] at z31
  refine Wp.run ok_uix 2 2 #[.val (.ref b), .val (.int c), .val (.int (Int32.ofNat i0)), .val (.int (Int32.ofNat cs.length))] [(.int (0 : Int32)), (.int (Int32.ofNat i0))] rfl ?_
  refine Wp.callS ok_uix (argsL := [(.int (Int32.ofNat i0)), (.int (0 : Int32))]) (rest := []) (ct_max G (x := Int32.ofNat i0) (y := 0) h) G.2.1 (G.1 _ (List.mem_of_getElem? (i := 162) rfl)) (G.1 _ (List.mem_of_getElem? (i := 80) rfl)) (G.1 _ (List.mem_of_getElem? (i := 81) rfl)) (G.1 _ (List.mem_of_getElem? (i := 82) rfl)) rfl rfl (by decide) pd_max rfl rfl (Nat.le_of_ble_eq_true rfl) (Nat.le_of_ble_eq_true rfl) (Nat.le_of_ble_eq_true rfl) (Nat.le_of_ble_eq_true rfl) all0 ?_
  rintro _ _ ⟨rfl, rfl⟩ -
  refine Wp.at #[.val (.ref b), .val (.int c), .val (.int (Int32.ofNat i0)), .val (.int (Int32.ofNat cs.length))] [(.int (Int32.ofNat i0))] ⟨rfl, (by rw [if_neg (Int32.ofNat_not_neg (by omega))] <;> rfl)⟩ ?_
  refine Wp.run ok_uix 3 8 #[.val (.ref b), .val (.int c), .val (.int (Int32.ofNat i0)), .val (.int (Int32.ofNat cs.length))] [(.ref b), (.int (Int32.ofNat cs.length))] rfl ?_
  refine Wp.alen ok_uix A rfl rfl ?_
  refine Wp.run ok_uix 2 11 #[.val (.ref b), .val (.int c), .val (.int (Int32.ofNat i0)), .val (.int (Int32.ofNat cs.length))] [(.int ((Int32.ofNat ((u16 cs).length)) >>> ((1 : Int32) &&& 31))), (.int (Int32.ofNat cs.length))] rfl ?_
  refine Wp.at #[.val (.ref b), .val (.int c), .val (.int (Int32.ofNat i0)), .val (.int (Int32.ofNat cs.length))] [(.int (Int32.ofNat cs.length)), (.int (Int32.ofNat cs.length))] ⟨rfl, (by rw [n_shr1 z31, u16_len, Nat.mul_div_cancel_left _ (by decide : 0 < 2)] <;> rfl)⟩ ?_
  refine Wp.callS ok_uix (argsL := [(.int (Int32.ofNat cs.length)), (.int (Int32.ofNat cs.length))]) (rest := []) (ct_min G (x := Int32.ofNat cs.length) (y := Int32.ofNat cs.length) h) G.2.1 (G.1 _ (List.mem_of_getElem? (i := 163) rfl)) (G.1 _ (List.mem_of_getElem? (i := 84) rfl)) (G.1 _ (List.mem_of_getElem? (i := 81) rfl)) (G.1 _ (List.mem_of_getElem? (i := 85) rfl)) rfl rfl (by decide) pd_min rfl rfl (Nat.le_of_ble_eq_true rfl) (Nat.le_of_ble_eq_true rfl) (Nat.le_of_ble_eq_true rfl) (Nat.le_of_ble_eq_true rfl) all0 ?_
  rintro _ _ ⟨rfl, rfl⟩ -
  refine Wp.at #[.val (.ref b), .val (.int c), .val (.int (Int32.ofNat i0)), .val (.int (Int32.ofNat cs.length))] [(.int (Int32.ofNat cs.length))] ⟨rfl, (by rw [ite_self] <;> rfl)⟩ ?_
  refine Wp.run ok_uix 3 17 #[.val (.ref b), .val (.int c), .val (.int (Int32.ofNat i0)), .val (.int (Int32.ofNat cs.length))] [(.int (Int32.ofNat cs.length)), (.int (Int32.ofNat i0))] rfl ?_
  refine Wp.icmp ok_uix 22 rfl rfl (by decide) (by decide) (fun hd => ?_) (fun hd => ?_)
  · replace hd : (Int32.ofNat i0) < (Int32.ofNat cs.length) := hd
    refine Wp.run ok_uix 1 23 #[.val (.ref b), .val (.int c), .val (.int (Int32.ofNat i0)), .val (.int (Int32.ofNat cs.length))] [(.int c)] rfl ?_
    refine Wp.ldcI ok_uix (G.1 _ (List.mem_of_getElem? (i := 164) rfl)) rfl ?_
    refine Wp.icmpF ok_uix rfl rfl (show c < (65536 : Int32) from Int32.lt_iff_toInt_lt.mpr (by rw [show (65536 : Int32).toInt = 65536 from by decide]; omega)) ?_
    refine Wp.run ok_uix 4 32 #[.val (.ref b), .val (.int c), .val (.int (Int32.ofNat i0)), .val (.int (Int32.ofNat cs.length))] [(.int (Int32.ofNat cs.length)), (.int (Int32.ofNat i0)), (.int c), (.ref b)] rfl ?_
    refine Wp.callS ok_uix (argsL := [(.ref b), (.int c), (.int (Int32.ofNat i0)), (.int (Int32.ofNat cs.length))]) (rest := []) (ct_ui1 G hw hi h A) G.2.1 (G.1 _ (List.mem_of_getElem? (i := 165) rfl)) (G.1 _ (List.mem_of_getElem? (i := 166) rfl)) (G.1 _ (List.mem_of_getElem? (i := 120) rfl)) (G.1 _ (List.mem_of_getElem? (i := 167) rfl)) rfl rfl (by decide) pd_ui1 rfl rfl (Nat.le_of_ble_eq_true rfl) (Nat.le_of_ble_eq_true rfl) (Nat.le_of_ble_eq_true rfl) (Nat.le_of_ble_eq_true rfl) all0 ?_
    rintro _ _ ⟨rfl, rfl⟩ -
    exact Wp.retI ok_uix (t := .int) rfl (by decide) rfl rfl rfl ⟨rfl, rfl⟩
  · replace hd : ¬ (Int32.ofNat i0) < (Int32.ofNat cs.length) := hd
    refine Wp.run ok_uix 1 21 #[.val (.ref b), .val (.int c), .val (.int (Int32.ofNat i0)), .val (.int (Int32.ofNat cs.length))] [(.int (-1 : Int32))] rfl ?_
    exact Wp.retI ok_uix (t := .int) rfl (by decide) rfl rfl rfl ⟨by rw [List.drop_eq_nil_of_le (Nat.le_of_not_lt fun z => hd ((n_lt (by omega) (by omega)).mpr z))]; rfl, rfl⟩

abbrev mt_ix2 : Mth := (⟨"java/lang/String", "indexOf", "(II)I"⟩, jdk_42_method_80_code, 3, some .int)
def tb_ix2 : Tab := [(0, .aload_n 0, 1), (1, .invokevirtual 492, 3), (4, .ifCond .eq 19, 3), (7, .aload_n 0, 1), (8, .getfield 9, 3), (11, .iload_n 1, 1), (12, .iload_n 2, 1), (13, .aload_n 0, 1), (14, .invokevirtual 505, 3), (17, .invokestatic 637, 3), (20, .goto 16, 3), (23, .aload_n 0, 1), (24, .getfield 9, 3), (27, .iload_n 1, 1), (28, .iload_n 2, 1), (29, .aload_n 0, 1), (30, .invokevirtual 505, 3), (33, .invokestatic 640, 3), (36, .ireturn, 1)]
theorem ok_ix2 : TabOk mt_ix2.2.1 tb_ix2 := by
  intro x hx
  have q : tb_ix2.all (fun x => decide (decode jdk_42_method_80_code x.1 = .ok x.2)) = true := by decide +kernel
  exact of_decide_eq_true (List.all_eq_true.mp q x hx)
theorem pl_ix2 : plainFor mt_ix2.1 = true := by first | decide +kernel | exact plainFor_of_name (by first | (simp [plainName, overriddenIn]; done) | decide +kernel)
theorem pd_ix2 : parseMethodDescriptor "(II)I" = some ⟨[.int, .int], some .int⟩ := by decide +kernel

set_option maxRecDepth 65536 in
set_option maxHeartbeats 4000000 in
theorem ct_ix2 {l : Launch} {Z : State} {a0 : Array Value} (G : Gd Z a0) {a : Addr} {cs : List Int32} {c : Int32} {i0 : Nat} (hc : 0 ≤ c.toInt ∧ c.toInt ≤ 255) (hi : i0 ≤ cs.length) (h : Heap) (S1 : StrG Z h a cs) :
    Ct l Z EL1 mt_ix2 ({ frames := 5, cells := 0, slots := 0, locals := 73 } : Room) #[(.ref a), (.int c), (.int (Int32.ofNat i0))] h [] (fun v h' => v = some (.int (ixF (cs.drop i0) c i0)) ∧ h = h') := by
  refine Ct.of_wp pl_ix2 G.2.1 (Ls := #[.val (.ref a), .val (.int c), .val (.int (Int32.ofNat i0))]) rfl ?_
  have SG := S1
  rcases S1 with S1 | S1
  · refine Wp.run ok_ix2 1 1 #[.val (.ref a), .val (.int c), .val (.int (Int32.ofNat i0))] [(.ref a)] rfl ?_
    refine Wp.callV ok_ix2 (a := a) (argsL := []) (rest := []) (ct_isl G h S1.cod) S1.exa G.2.1 (G.1 _ (List.mem_of_getElem? (i := 56) rfl)) (G.1 _ (List.mem_of_getElem? (i := 57) rfl)) (G.1 _ (List.mem_of_getElem? (i := 59) rfl)) (G.1 _ (List.mem_of_getElem? (i := 58) rfl)) (G.1 _ (List.mem_of_getElem? (i := 11) rfl)) (G.1 _ (List.mem_of_getElem? (i := 60) rfl)) rfl rfl (by decide) pd_isl rfl rfl (Nat.le_of_ble_eq_true rfl) (Nat.le_of_ble_eq_true rfl) (Nat.le_of_ble_eq_true rfl) (Nat.le_of_ble_eq_true rfl) all0 ?_
    rintro _ _ ⟨rfl, rfl⟩ -
    refine Wp.ifF ok_ix2 rfl rfl (show ¬ 1 = (0 : Int32) from by decide) ?_
    refine Wp.run ok_ix2 1 8 #[.val (.ref a), .val (.int c), .val (.int (Int32.ofNat i0))] [(.ref a)] rfl ?_
    obtain ⟨b, V, A⟩ := S1.val
    refine Wp.getF ok_ix2 V (G.1 _ (List.mem_of_getElem? (i := 28) rfl)) Via.refl rfl rfl ?_
    refine Wp.run ok_ix2 3 14 #[.val (.ref a), .val (.int c), .val (.int (Int32.ofNat i0))] [(.ref a), (.int (Int32.ofNat i0)), (.int c), (.ref b)] rfl ?_
    refine Wp.callV ok_ix2 (a := a) (argsL := []) (rest := [(.int (Int32.ofNat i0)), (.int c), (.ref b)]) (ct_leng G h SG) S1.exa G.2.1 (G.1 _ (List.mem_of_getElem? (i := 62) rfl)) (G.1 _ (List.mem_of_getElem? (i := 63) rfl)) (G.1 _ (List.mem_of_getElem? (i := 65) rfl)) (G.1 _ (List.mem_of_getElem? (i := 64) rfl)) (G.1 _ (List.mem_of_getElem? (i := 11) rfl)) (G.1 _ (List.mem_of_getElem? (i := 66) rfl)) rfl rfl (by decide) pd_len rfl rfl (Nat.le_of_ble_eq_true rfl) (Nat.le_of_ble_eq_true rfl) (Nat.le_of_ble_eq_true rfl) (Nat.le_of_ble_eq_true rfl) all0 ?_
    rintro _ _ ⟨rfl, rfl⟩ -
    refine Wp.callS ok_ix2 (argsL := [(.ref b), (.int c), (.int (Int32.ofNat i0)), (.int (Int32.ofNat cs.length))]) (rest := []) (ct_lix G S1.lat hc hi h A) G.2.1 (G.1 _ (List.mem_of_getElem? (i := 72) rfl)) (G.1 _ (List.mem_of_getElem? (i := 73) rfl)) (G.1 _ (List.mem_of_getElem? (i := 74) rfl)) (G.1 _ (List.mem_of_getElem? (i := 75) rfl)) rfl rfl (by decide) pd_lix rfl rfl (Nat.le_of_ble_eq_true rfl) (Nat.le_of_ble_eq_true rfl) (Nat.le_of_ble_eq_true rfl) (Nat.le_of_ble_eq_true rfl) all0 ?_
    rintro _ _ ⟨rfl, rfl⟩ -
    refine Wp.run ok_ix2 1 36 #[.val (.ref a), .val (.int c), .val (.int (Int32.ofNat i0))] [(.int (ixF (cs.drop i0) c i0))] rfl ?_
    exact Wp.retI ok_ix2 (t := .int) rfl (by decide) rfl rfl rfl ⟨rfl, rfl⟩
  · refine Wp.run ok_ix2 1 1 #[.val (.ref a), .val (.int c), .val (.int (Int32.ofNat i0))] [(.ref a)] rfl ?_
    refine Wp.callV ok_ix2 (a := a) (argsL := []) (rest := []) (ct_isu G h S1.cod) S1.exa G.2.1 (G.1 _ (List.mem_of_getElem? (i := 56) rfl)) (G.1 _ (List.mem_of_getElem? (i := 57) rfl)) (G.1 _ (List.mem_of_getElem? (i := 59) rfl)) (G.1 _ (List.mem_of_getElem? (i := 58) rfl)) (G.1 _ (List.mem_of_getElem? (i := 11) rfl)) (G.1 _ (List.mem_of_getElem? (i := 60) rfl)) rfl rfl (by decide) pd_isl rfl rfl (Nat.le_of_ble_eq_true rfl) (Nat.le_of_ble_eq_true rfl) (Nat.le_of_ble_eq_true rfl) (Nat.le_of_ble_eq_true rfl) all0 ?_
    rintro _ _ ⟨rfl, rfl⟩ -
    refine Wp.ifT ok_ix2 23 rfl rfl (show 0 = (0 : Int32) from rfl) (by decide) (by decide) ?_
    refine Wp.run ok_ix2 1 24 #[.val (.ref a), .val (.int c), .val (.int (Int32.ofNat i0))] [(.ref a)] rfl ?_
    obtain ⟨b, V, A⟩ := S1.val
    refine Wp.getF ok_ix2 V (G.1 _ (List.mem_of_getElem? (i := 28) rfl)) Via.refl rfl rfl ?_
    refine Wp.run ok_ix2 3 30 #[.val (.ref a), .val (.int c), .val (.int (Int32.ofNat i0))] [(.ref a), (.int (Int32.ofNat i0)), (.int c), (.ref b)] rfl ?_
    refine Wp.callV ok_ix2 (a := a) (argsL := []) (rest := [(.int (Int32.ofNat i0)), (.int c), (.ref b)]) (ct_leng G h SG) S1.exa G.2.1 (G.1 _ (List.mem_of_getElem? (i := 62) rfl)) (G.1 _ (List.mem_of_getElem? (i := 63) rfl)) (G.1 _ (List.mem_of_getElem? (i := 65) rfl)) (G.1 _ (List.mem_of_getElem? (i := 64) rfl)) (G.1 _ (List.mem_of_getElem? (i := 11) rfl)) (G.1 _ (List.mem_of_getElem? (i := 66) rfl)) rfl rfl (by decide) pd_len rfl rfl (Nat.le_of_ble_eq_true rfl) (Nat.le_of_ble_eq_true rfl) (Nat.le_of_ble_eq_true rfl) (Nat.le_of_ble_eq_true rfl) all0 ?_
    rintro _ _ ⟨rfl, rfl⟩ -
    refine Wp.callS ok_ix2 (argsL := [(.ref b), (.int c), (.int (Int32.ofNat i0)), (.int (Int32.ofNat cs.length))]) (rest := []) (ct_uix G S1.w16 hc hi h A) G.2.1 (G.1 _ (List.mem_of_getElem? (i := 159) rfl)) (G.1 _ (List.mem_of_getElem? (i := 160) rfl)) (G.1 _ (List.mem_of_getElem? (i := 120) rfl)) (G.1 _ (List.mem_of_getElem? (i := 161) rfl)) rfl rfl (by decide) pd_uix rfl rfl (Nat.le_of_ble_eq_true rfl) (Nat.le_of_ble_eq_true rfl) (Nat.le_of_ble_eq_true rfl) (Nat.le_of_ble_eq_true rfl) all0 ?_
    rintro _ _ ⟨rfl, rfl⟩ -
    exact Wp.retI ok_ix2 (t := .int) rfl (by decide) rfl rfl rfl ⟨rfl, rfl⟩

abbrev mt_ix1 : Mth := (⟨"java/lang/String", "indexOf", "(I)I"⟩, jdk_42_method_79_code, 2, some .int)
def tb_ix1 : Tab := [(0, .aload_n 0, 1), (1, .iload_n 1, 1), (2, .iconst 0, 1), (3, .invokevirtual 633, 3), (6, .ireturn, 1)]
theorem ok_ix1 : TabOk mt_ix1.2.1 tb_ix1 := by
  intro x hx
  have q : tb_ix1.all (fun x => decide (decode jdk_42_method_79_code x.1 = .ok x.2)) = true := by decide +kernel
  exact of_decide_eq_true (List.all_eq_true.mp q x hx)
theorem pl_ix1 : plainFor mt_ix1.1 = true := by first | decide +kernel | exact plainFor_of_name (by first | (simp [plainName, overriddenIn]; done) | decide +kernel)
theorem pd_ix1 : parseMethodDescriptor "(I)I" = some ⟨[.int], some .int⟩ := by decide +kernel

set_option maxRecDepth 65536 in
set_option maxHeartbeats 4000000 in
theorem ct_ix1 {l : Launch} {Z : State} {a0 : Array Value} (G : Gd Z a0) {a : Addr} {cs : List Int32} {c : Int32} (hc : 0 ≤ c.toInt ∧ c.toInt ≤ 255) (h : Heap) (S1 : StrG Z h a cs) :
    Ct l Z EL1 mt_ix1 ({ frames := 6, cells := 0, slots := 0, locals := 87 } : Room) #[(.ref a), (.int c)] h [] (fun v h' => v = some (.int (ixF cs c 0)) ∧ h = h') := by
  refine Ct.of_wp pl_ix1 G.2.1 (Ls := #[.val (.ref a), .val (.int c)]) rfl ?_
  refine Wp.run ok_ix1 3 3 #[.val (.ref a), .val (.int c)] [(.int (0 : Int32)), (.int c), (.ref a)] rfl ?_
  refine Wp.callV ok_ix1 (a := a) (argsL := [(.int c), (.int (0 : Int32))]) (rest := []) (ct_ix2 G (i0 := 0) hc (Nat.zero_le _) h S1) S1.exa G.2.1 (G.1 _ (List.mem_of_getElem? (i := 51) rfl)) (G.1 _ (List.mem_of_getElem? (i := 52) rfl)) (G.1 _ (List.mem_of_getElem? (i := 54) rfl)) (G.1 _ (List.mem_of_getElem? (i := 53) rfl)) (G.1 _ (List.mem_of_getElem? (i := 11) rfl)) (G.1 _ (List.mem_of_getElem? (i := 55) rfl)) rfl rfl (by decide) pd_ix2 rfl rfl (Nat.le_of_ble_eq_true rfl) (Nat.le_of_ble_eq_true rfl) (Nat.le_of_ble_eq_true rfl) (Nat.le_of_ble_eq_true rfl) all0 ?_
  rintro _ _ ⟨rfl, rfl⟩ -
  exact Wp.retI ok_ix1 (t := .int) rfl (by decide) rfl rfl rfl ⟨rfl, rfl⟩
end Jvm.Pilot.@@N@@
namespace Jvm.Pilot.@@N@@
open Jvm Jvm.ClassFile Sem Op Lib Jvm.Free Jvm.Stand Jvm.LawKit Jvm.RoadKit Bundle Jvm.Pilot.@@N@@.Jvm.D Jvm.Pilot.@@N@@.Kw
abbrev mt_ckl : Mth := (⟨"java/util/Arrays", "checkLength", "(II)V"⟩, jdk_65_method_131_code, 2, none)
def tb_ckl : Tab := [(0, .iload_n 1, 1), (1, .iload_n 0, 1), (2, .if_icmp .ge 35, 3), (5, .new 43, 3), (8, .dup, 1), (9, .new 45, 3), (12, .dup, 1), (13, .invokespecial 47, 3), (16, .iload_n 0, 1), (17, .invokevirtual 54, 3), (20, .ldc_w 337, 3), (23, .invokevirtual 50, 3), (26, .iload_n 1, 1), (27, .invokevirtual 54, 3), (30, .invokevirtual 61, 3), (33, .invokespecial 65, 3), (36, .athrow, 1), (37, .return_, 1)]
theorem ok_ckl : TabOk mt_ckl.2.1 tb_ckl := by
  intro x hx
  have q : tb_ckl.all (fun x => decide (decode jdk_65_method_131_code x.1 = .ok x.2)) = true := by decide +kernel
  exact of_decide_eq_true (List.all_eq_true.mp q x hx)
theorem pl_ckl : plainFor mt_ckl.1 = true := by first | decide +kernel | exact plainFor_of_name (by first | (simp [plainName, overriddenIn]; done) | decide +kernel)
theorem pd_ckl : parseMethodDescriptor "(II)V" = some ⟨[.int, .int], none⟩ := by decide +kernel

set_option maxRecDepth 65536 in
set_option maxHeartbeats 4000000 in
theorem ct_ckl {l : Launch} {Z : State} {a0 : Array Value} (G : Gd Z a0) {i j : Nat} (hi : i ≤ j) (h31 : j < 2 ^ 31) (h : Heap)  :
    Ct l Z EL1 mt_ckl ({ frames := 0, cells := 0, slots := 0, locals := 0 } : Room) #[(.int (Int32.ofNat i)), (.int (Int32.ofNat j))] h [] (fun v h' => v = none ∧ h = h') := by
  refine Ct.of_wp pl_ckl G.2.1 (Ls := #[.val (.int (Int32.ofNat i)), .val (.int (Int32.ofNat j))]) rfl ?_
  refine Wp.run ok_ckl 2 2 #[.val (.int (Int32.ofNat i)), .val (.int (Int32.ofNat j))] [(.int (Int32.ofNat i)), (.int (Int32.ofNat j))] rfl ?_
  refine Wp.icmpT ok_ckl 37 rfl rfl (show ¬ (Int32.ofNat j) < (Int32.ofNat i) from fun q => absurd ((n_lt (by omega) (by omega)).mp q) (by omega)) (by decide) (by decide) ?_
  exact Wp.ret0 ok_ckl rfl rfl rfl ⟨rfl, rfl⟩

abbrev mt_crb : Mth := (⟨"java/util/Arrays", "copyOfRangeByte", "([BII)[B"⟩, jdk_65_method_133_code, 5, some (.array .byte))
def tb_crb : Tab := [(0, .iload_n 1, 1), (1, .iload_n 2, 1), (2, .invokestatic 343, 3), (5, .iload_n 2, 1), (6, .iload_n 1, 1), (7, .isub, 1), (8, .istore_n 3, 1), (9, .iload_n 3, 1), (10, .newarray .byte, 2), (12, .astore 4, 2), (14, .aload_n 0, 1), (15, .iload_n 1, 1), (16, .aload 4, 2), (18, .iconst 0, 1), (19, .aload_n 0, 1), (20, .arraylength, 1), (21, .iload_n 1, 1), (22, .isub, 1), (23, .iload_n 3, 1), (24, .invokestatic 304, 3), (27, .invokestatic 150, 3), (30, .aload 4, 2), (32, .areturn, 1)]
theorem ok_crb : TabOk mt_crb.2.1 tb_crb := by
  intro x hx
  have q : tb_crb.all (fun x => decide (decode jdk_65_method_133_code x.1 = .ok x.2)) = true := by decide +kernel
  exact of_decide_eq_true (List.all_eq_true.mp q x hx)
theorem pl_crb : plainFor mt_crb.1 = true := by first | decide +kernel | exact plainFor_of_name (by first | (simp [plainName, overriddenIn]; done) | decide +kernel)
theorem pd_crb : parseMethodDescriptor "([BII)[B" = some ⟨[(.array .byte), .int, .int], some (.array .byte)⟩ := by decide +kernel

set_option maxRecDepth 65536 in
set_option maxHeartbeats 4000000 in
theorem ct_crb {l : Launch} {Z : State} {a0 : Array Value} (G : Gd Z a0) {a : Addr} {vs : List Value} {i j : Nat} (hi : i ≤ j) (hj : j ≤ vs.length) (hcap : j - i ≤ 16) (h : Heap) (A : Ar Z h a .byte vs) :
    Ct l Z EL1 mt_crb ({ frames := 1, cells := 1, slots := 16, locals := 18 } : Room) #[(.ref a), (.int (Int32.ofNat i)), (.int (Int32.ofNat j))] h [] (fun v h' => ∃ d, v = some (.ref d) ∧ Ext h h' ∧ Ar Z h' d .byte ((vs.drop i).take (j - i)) ∧ h.size ≤ d) := by
  refine Ct.of_wp pl_crb G.2.1 (Ls := #[.val (.ref a), .val (.int (Int32.ofNat i)), .val (.int (Int32.ofNat j)), .unset, .unset]) rfl ?_
  have h31 := A.len
  refine Wp.run ok_crb 2 2 #[.val (.ref a), .val (.int (Int32.ofNat i)), .val (.int (Int32.ofNat j)), .unset, .unset] [(.int (Int32.ofNat j)), (.int (Int32.ofNat i))] rfl ?_
  refine Wp.callS ok_crb (argsL := [(.int (Int32.ofNat i)), (.int (Int32.ofNat j))]) (rest := []) (ct_ckl G hi (by omega) h) G.2.1 (G.1 _ (List.mem_of_getElem? (i := 245) rfl)) (G.1 _ (List.mem_of_getElem? (i := 246) rfl)) (G.1 _ (List.mem_of_getElem? (i := 191) rfl)) (G.1 _ (List.mem_of_getElem? (i := 247) rfl)) rfl rfl (by decide) pd_ckl rfl rfl (Nat.le_of_ble_eq_true rfl) (Nat.le_of_ble_eq_true rfl) (Nat.le_of_ble_eq_true rfl) (Nat.le_of_ble_eq_true rfl) all0 ?_
  rintro _ _ ⟨rfl, rfl⟩ -
  refine Wp.run ok_crb 5 10 #[.val (.ref a), .val (.int (Int32.ofNat i)), .val (.int (Int32.ofNat j)), .val (.int ((Int32.ofNat j) - (Int32.ofNat i))), .unset] [(.int ((Int32.ofNat j) - (Int32.ofNat i)))] rfl ?_
  refine Wp.at #[.val (.ref a), .val (.int (Int32.ofNat i)), .val (.int (Int32.ofNat j)), .val (.int (Int32.ofNat (j - i))), .unset] [(.int (Int32.ofNat (j - i)))] ⟨(by rw [n_sub hi] <;> rfl), (by rw [n_sub hi] <;> rfl)⟩ ?_
  refine Wp.newP ok_crb (len := (j - i)) (cap := 16) (G.1 _ (List.mem_of_getElem? (i := 23) rfl)) rfl rfl rfl hcap (Nat.le_of_ble_eq_true rfl) (Nat.le_of_ble_eq_true rfl) (Nat.le_of_ble_eq_true rfl) ?_
  intro h1 E1 B1
  refine Wp.run ok_crb 6 20 #[.val (.ref a), .val (.int (Int32.ofNat i)), .val (.int (Int32.ofNat j)), .val (.int (Int32.ofNat (j - i))), .val (.ref h.size)] [(.ref a), (.int (0 : Int32)), (.ref h.size), (.int (Int32.ofNat i)), (.ref a)] rfl ?_
  refine Wp.alen ok_crb (A.ext E1) rfl rfl ?_
  refine Wp.run ok_crb 3 24 #[.val (.ref a), .val (.int (Int32.ofNat i)), .val (.int (Int32.ofNat j)), .val (.int (Int32.ofNat (j - i))), .val (.ref h.size)] [(.int (Int32.ofNat (j - i))), (.int ((Int32.ofNat vs.length) - (Int32.ofNat i))), (.int (0 : Int32)), (.ref h.size), (.int (Int32.ofNat i)), (.ref a)] rfl ?_
  refine Wp.at #[.val (.ref a), .val (.int (Int32.ofNat i)), .val (.int (Int32.ofNat j)), .val (.int (Int32.ofNat (j - i))), .val (.ref h.size)] [(.int (Int32.ofNat (j - i))), (.int (Int32.ofNat (vs.length - i))), (.int (0 : Int32)), (.ref h.size), (.int (Int32.ofNat i)), (.ref a)] ⟨rfl, (by rw [n_sub (show i ≤ vs.length by omega)] <;> rfl)⟩ ?_
  refine Wp.callS ok_crb (argsL := [(.int (Int32.ofNat (vs.length - i))), (.int (Int32.ofNat (j - i)))]) (rest := [(.int (0 : Int32)), (.ref h.size), (.int (Int32.ofNat i)), (.ref a)]) (ct_min G (x := Int32.ofNat (vs.length - i)) (y := Int32.ofNat (j - i)) h1) G.2.1 (G.1 _ (List.mem_of_getElem? (i := 193) rfl)) (G.1 _ (List.mem_of_getElem? (i := 84) rfl)) (G.1 _ (List.mem_of_getElem? (i := 81) rfl)) (G.1 _ (List.mem_of_getElem? (i := 85) rfl)) rfl rfl (by decide) pd_min rfl rfl (Nat.le_of_ble_eq_true rfl) (Nat.le_of_ble_eq_true rfl) (Nat.le_of_ble_eq_true rfl) (Nat.le_of_ble_eq_true rfl) all0 ?_
  rintro _ _ ⟨rfl, rfl⟩ -
  have e2 : (if Int32.ofNat (j - i) < Int32.ofNat (vs.length - i) then Int32.ofNat (j - i) else Int32.ofNat (vs.length - i)) = Int32.ofNat (j - i) := by
    split
    · rfl
    · rename_i q; rw [n_lt (by omega) (by omega)] at q; rw [show vs.length - i = j - i by omega]
  refine Wp.at #[.val (.ref a), .val (.int (Int32.ofNat i)), .val (.int (Int32.ofNat j)), .val (.int (Int32.ofNat (j - i))), .val (.ref h.size)] [(.int (Int32.ofNat (j - i))), (.int (0 : Int32)), (.ref h.size), (.int (Int32.ofNat i)), (.ref a)] ⟨rfl, (by rw [e2] <;> rfl)⟩ ?_
  refine Wp.acopy ok_crb (i := i) (j := 0) (len := (j - i)) (A.ext E1) B1 (List.mem_of_getElem? (i := 0) rfl) rfl rfl rfl rfl (by omega) (by simp) (G.1 _ (List.mem_of_getElem? (i := 194) rfl)) (G.1 _ (List.mem_of_getElem? (i := 197) rfl)) (G.1 _ (List.mem_of_getElem? (i := 195) rfl)) (G.1 _ (List.mem_of_getElem? (i := 196) rfl)) rfl rfl rfl (Nat.le_of_ble_eq_true rfl) (Nat.le_of_ble_eq_true rfl) ?_
  intro h2 K2 B2
  refine Wp.run ok_crb 1 32 #[.val (.ref a), .val (.int (Int32.ofNat i)), .val (.int (Int32.ofNat j)), .val (.int (Int32.ofNat (j - i))), .val (.ref h.size)] [(.ref h.size)] rfl ?_
  exact Wp.retA ok_crb (t := (.array .byte)) rfl rfl rfl rfl rfl ⟨_, rfl, ext_keep E1 K2 (all1 (Nat.le_refl _)), by simpa using B2, Nat.le_refl _⟩

abbrev mt_cor : Mth := (⟨"java/util/Arrays", "copyOfRange", "([BII)[B"⟩, jdk_65_method_132_code, 3, some (.array .byte))
def tb_cor : Tab := [(0, .iload_n 1, 1), (1, .ifCond .ne 9, 3), (4, .iload_n 2, 1), (5, .aload_n 0, 1), (6, .arraylength, 1), (7, .if_icmp .eq 10, 3), (10, .aload_n 0, 1), (11, .iload_n 1, 1), (12, .iload_n 2, 1), (13, .invokestatic 339, 3), (16, .areturn, 1), (17, .aload_n 0, 1), (18, .invokevirtual 310, 3), (21, .checkcast 311, 3), (24, .areturn, 1)]
theorem ok_cor : TabOk mt_cor.2.1 tb_cor := by
  intro x hx
  have q : tb_cor.all (fun x => decide (decode jdk_65_method_132_code x.1 = .ok x.2)) = true := by decide +kernel
  exact of_decide_eq_true (List.all_eq_true.mp q x hx)
theorem pl_cor : plainFor mt_cor.1 = true := by first | decide +kernel | exact plainFor_of_name (by first | (simp [plainName, overriddenIn]; done) | decide +kernel)
theorem pd_cor : parseMethodDescriptor "([BII)[B" = some ⟨[(.array .byte), .int, .int], some (.array .byte)⟩ := by decide +kernel

set_option maxRecDepth 65536 in
set_option maxHeartbeats 4000000 in
theorem ct_cor {l : Launch} {Z : State} {a0 : Array Value} (G : Gd Z a0) {a : Addr} {vs : List Value} {i j : Nat} (hi : i ≤ j) (hj : j ≤ vs.length) (hcap : j - i ≤ 16) (hne : ¬ (i = 0 ∧ j = vs.length)) (h : Heap) (A : Ar Z h a .byte vs) :
    Ct l Z EL1 mt_cor ({ frames := 2, cells := 1, slots := 16, locals := 34 } : Room) #[(.ref a), (.int (Int32.ofNat i)), (.int (Int32.ofNat j))] h [] (fun v h' => ∃ d, v = some (.ref d) ∧ Ext h h' ∧ Ar Z h' d .byte ((vs.drop i).take (j - i)) ∧ h.size ≤ d) := by
  refine Ct.of_wp pl_cor G.2.1 (Ls := #[.val (.ref a), .val (.int (Int32.ofNat i)), .val (.int (Int32.ofNat j))]) rfl ?_
  have h31 := A.len
  refine Wp.run ok_cor 1 1 #[.val (.ref a), .val (.int (Int32.ofNat i)), .val (.int (Int32.ofNat j))] [(.int (Int32.ofNat i))] rfl ?_
  refine Wp.if0 ok_cor 10 rfl rfl (by decide) (by decide) (fun hc => ?_) (fun hc => ?_)
  · replace hc : ¬ (Int32.ofNat i) = (0 : Int32) := hc
    refine Wp.run ok_cor 3 13 #[.val (.ref a), .val (.int (Int32.ofNat i)), .val (.int (Int32.ofNat j))] [(.int (Int32.ofNat j)), (.int (Int32.ofNat i)), (.ref a)] rfl ?_
    refine Wp.callS ok_cor (argsL := [(.ref a), (.int (Int32.ofNat i)), (.int (Int32.ofNat j))]) (rest := []) (ct_crb G hi hj hcap h A) G.2.1 (G.1 _ (List.mem_of_getElem? (i := 242) rfl)) (G.1 _ (List.mem_of_getElem? (i := 243) rfl)) (G.1 _ (List.mem_of_getElem? (i := 191) rfl)) (G.1 _ (List.mem_of_getElem? (i := 244) rfl)) rfl rfl (by decide) pd_crb rfl rfl (Nat.le_of_ble_eq_true rfl) (Nat.le_of_ble_eq_true rfl) (Nat.le_of_ble_eq_true rfl) (Nat.le_of_ble_eq_true rfl) all0 ?_
    rintro _ h1 ⟨d, rfl, E1, B1, hd⟩ -
    exact Wp.retA ok_cor (t := (.array .byte)) rfl rfl rfl rfl rfl ⟨d, rfl, E1, B1, hd⟩
  · replace hc : (Int32.ofNat i) = (0 : Int32) := hc
    have hi0 : i = 0 := (n_eq (by omega) (by decide)).mp hc
    refine Wp.run ok_cor 2 6 #[.val (.ref a), .val (.int (Int32.ofNat i)), .val (.int (Int32.ofNat j))] [(.ref a), (.int (Int32.ofNat j))] rfl ?_
    refine Wp.alen ok_cor A rfl rfl ?_
    refine Wp.icmpF ok_cor rfl rfl (show ¬ (Int32.ofNat j) = (Int32.ofNat vs.length) from fun z => hne ⟨hi0, (n_eq (by omega) (by omega)).mp z⟩) ?_
    refine Wp.run ok_cor 3 13 #[.val (.ref a), .val (.int (Int32.ofNat i)), .val (.int (Int32.ofNat j))] [(.int (Int32.ofNat j)), (.int (Int32.ofNat i)), (.ref a)] rfl ?_
    refine Wp.callS ok_cor (argsL := [(.ref a), (.int (Int32.ofNat i)), (.int (Int32.ofNat j))]) (rest := []) (ct_crb G hi hj hcap h A) G.2.1 (G.1 _ (List.mem_of_getElem? (i := 242) rfl)) (G.1 _ (List.mem_of_getElem? (i := 243) rfl)) (G.1 _ (List.mem_of_getElem? (i := 191) rfl)) (G.1 _ (List.mem_of_getElem? (i := 244) rfl)) rfl rfl (by decide) pd_crb rfl rfl (Nat.le_of_ble_eq_true rfl) (Nat.le_of_ble_eq_true rfl) (Nat.le_of_ble_eq_true rfl) (Nat.le_of_ble_eq_true rfl) all0 ?_
    rintro _ h1 ⟨d, rfl, E1, B1, hd⟩ -
    exact Wp.retA ok_cor (t := (.array .byte)) rfl rfl rfl rfl rfl ⟨d, rfl, E1, B1, hd⟩

abbrev mt_sbb : Mth := (⟨"java/lang/String", "<init>", "([BB)V"⟩, jdk_42_method_151_code, 3, none)
def tb_sbb : Tab := [(0, .aload_n 0, 1), (1, .invokespecial 1, 3), (4, .aload_n 0, 1), (5, .aload_n 1, 1), (6, .putfield 9, 3), (9, .aload_n 0, 1), (10, .iload_n 2, 1), (11, .putfield 15, 3), (14, .return_, 1)]
theorem ok_sbb : TabOk mt_sbb.2.1 tb_sbb := by
  intro x hx
  have q : tb_sbb.all (fun x => decide (decode jdk_42_method_151_code x.1 = .ok x.2)) = true := by decide +kernel
  exact of_decide_eq_true (List.all_eq_true.mp q x hx)
theorem pl_sbb : plainFor mt_sbb.1 = true := by first | decide +kernel | exact plainFor_of_name (by first | (simp [plainName, overriddenIn]; done) | decide +kernel)
theorem pd_sbb : parseMethodDescriptor "([BB)V" = some ⟨[(.array .byte), .byte], none⟩ := by decide +kernel

set_option maxRecDepth 65536 in
set_option maxHeartbeats 4000000 in
theorem ct_sbb {l : Launch} {Z : State} {a0 : Array Value} (G : Gd Z a0) {a d : Addr} {cs : List Int32} (hlat : Lat cs) (hda : d ≠ a) (h : Heap) (X0 : Exa Z h a "java/lang/String") (F1 : Fld Z h a "java/lang/String" "coder" "B" (.int 0)) {v0 : Value} (F2 : Fld Z h a "java/lang/String" "value" "[B" v0) (A : Ar Z h d .byte (byt cs)) :
    Ct l Z EL1 mt_sbb ({ frames := 1, cells := 0, slots := 0, locals := 12 } : Room) #[(.ref a), (.ref d), (.int 0)] h [a] (fun v h' => v = none ∧ Keep h h' [a] ∧ Str Z h' a cs) := by
  refine Ct.of_wp pl_sbb G.2.1 (Ls := #[.val (.ref a), .val (.ref d), .val (.int 0)]) rfl ?_
  refine Wp.run ok_sbb 1 1 #[.val (.ref a), .val (.ref d), .val (.int 0)] [(.ref a)] rfl ?_
  refine Wp.initO ok_sbb (G.1 _ (List.mem_of_getElem? (i := 19) rfl)) (G.1 _ (List.mem_of_getElem? (i := 20) rfl)) (G.1 _ (List.mem_of_getElem? (i := 21) rfl)) rfl rfl rfl (Nat.le_of_ble_eq_true rfl) (Nat.le_of_ble_eq_true rfl) ?_
  refine Wp.run ok_sbb 2 6 #[.val (.ref a), .val (.ref d), .val (.int 0)] [(.ref d), (.ref a)] rfl ?_
  refine Wp.putF ok_sbb (ty := (.array .byte)) F2 X0 (List.mem_of_getElem? (i := 0) rfl) (G.1 _ (List.mem_of_getElem? (i := 28) rfl)) Via.refl (Or.inr ⟨(G.1 _ (List.mem_of_getElem? (i := 24) rfl)), rfl, rfl⟩) (G.1 _ (List.mem_of_getElem? (i := 10) rfl)) (by decide) rfl rfl rfl ?_
  intro h1 w1
  refine Wp.run ok_sbb 2 11 #[.val (.ref a), .val (.ref d), .val (.int 0)] [(.int 0), (.ref a)] rfl ?_
  refine Wp.putF ok_sbb (ty := .byte) (F1.other w1 (Or.inr (slot_ne (Or.inr (G.1 _ (List.mem_of_getElem? (i := 25) rfl))) (Or.inr (G.1 _ (List.mem_of_getElem? (i := 24) rfl))) (by decide) (t := .byte) (t' := (.array .byte)) (by decide) (by decide)))) (X0.wr w1) (List.mem_of_getElem? (i := 0) rfl) (G.1 _ (List.mem_of_getElem? (i := 29) rfl)) Via.refl (Or.inr ⟨(G.1 _ (List.mem_of_getElem? (i := 25) rfl)), rfl, rfl⟩) (G.1 _ (List.mem_of_getElem? (i := 10) rfl)) (by decide) rfl rfl rfl ?_
  intro h2 w2
  exact Wp.ret0 ok_sbb rfl rfl rfl ⟨rfl, (wr_keep w1).trans (wr_keep w2) (fun x hx => Or.inl hx), hlat, (X0.wr w1).wr w2, (F1.other w1 (Or.inr (slot_ne (Or.inr (G.1 _ (List.mem_of_getElem? (i := 25) rfl))) (Or.inr (G.1 _ (List.mem_of_getElem? (i := 24) rfl))) (by decide) (t := .byte) (t' := (.array .byte)) (by decide) (by decide)))).same w2, d, (F2.same w1).other w2 (Or.inr (slot_ne (Or.inr (G.1 _ (List.mem_of_getElem? (i := 24) rfl))) (Or.inr (G.1 _ (List.mem_of_getElem? (i := 25) rfl))) (by decide) (t := (.array .byte)) (t' := .byte) (by decide) (by decide))), (A.other w1 hda).other w2 hda⟩

abbrev mt_lns : Mth := (⟨"java/lang/StringLatin1", "newString", "([BII)Ljava/lang/String;"⟩, jdk_43_method_47_code, 3, some (.object "java/lang/String"))
def tb_lns : Tab := [(0, .iload_n 2, 1), (1, .ifCond .ne 6, 3), (4, .ldc 151, 2), (6, .areturn, 1), (7, .new 1, 3), (10, .dup, 1), (11, .aload_n 0, 1), (12, .iload_n 1, 1), (13, .iload_n 1, 1), (14, .iload_n 2, 1), (15, .iadd, 1), (16, .invokestatic 232, 3), (19, .iconst 0, 1), (20, .invokespecial 112, 3), (23, .areturn, 1)]
theorem ok_lns : TabOk mt_lns.2.1 tb_lns := by
  intro x hx
  have q : tb_lns.all (fun x => decide (decode jdk_43_method_47_code x.1 = .ok x.2)) = true := by decide +kernel
  exact of_decide_eq_true (List.all_eq_true.mp q x hx)
theorem pl_lns : plainFor mt_lns.1 = true := by first | decide +kernel | exact plainFor_of_name (by first | (simp [plainName, overriddenIn]; done) | decide +kernel)
theorem pd_lns : parseMethodDescriptor "([BII)Ljava/lang/String;" = some ⟨[(.array .byte), .int, .int], some (.object "java/lang/String")⟩ := by decide +kernel

set_option maxRecDepth 65536 in
set_option maxHeartbeats 4000000 in
theorem ct_lns {l : Launch} {Z : State} {a0 : Array Value} (G : Gd Z a0) {b : Addr} {cs : List Int32} {i m : Nat} (hlat : Lat cs) (hm : i + m ≤ cs.length) (hcap : m ≤ 16) (hne : ¬ (i = 0 ∧ i + m = cs.length)) (hn0 : m ≠ 0) (h : Heap) (A : Ar Z h b .byte (byt cs)) :
    Ct l Z EL1 mt_lns ({ frames := 3, cells := 2, slots := 20, locals := 50 } : Room) #[(.ref b), (.int (Int32.ofNat i)), (.int (Int32.ofNat m))] h [] (fun v h' => ∃ a, v = some (.ref a) ∧ Ext h h' ∧ Str Z h' a ((cs.drop i).take m)) := by
  refine Ct.of_wp pl_lns G.2.1 (Ls := #[.val (.ref b), .val (.int (Int32.ofNat i)), .val (.int (Int32.ofNat m))]) rfl ?_
  have h31 : cs.length < 2 ^ 31 := by simpa using A.len
  refine Wp.run ok_lns 1 1 #[.val (.ref b), .val (.int (Int32.ofNat i)), .val (.int (Int32.ofNat m))] [(.int (Int32.ofNat m))] rfl ?_
  refine Wp.ifT ok_lns 7 rfl rfl (show ¬ (Int32.ofNat m) = (0 : Int32) from fun z => hn0 ((n_eq (by omega) (by decide)).mp z)) (by decide) (by decide) ?_
  refine Wp.new ok_lns (G.1 _ (List.mem_of_getElem? (i := 254) rfl)) (G.1 _ (List.mem_of_getElem? (i := 10) rfl)) (G.1 _ (List.mem_of_getElem? (i := 11) rfl)) rfl (Nat.le_of_ble_eq_true rfl) (Nat.le_of_ble_eq_true rfl) ?_
  intro h1 E1 X1 D_h1
  have F1_h1 : Fld Z h1 h.size "java/lang/String" "coder" "B" (.int 0) := D_h1 (Or.inr (G.1 _ (List.mem_of_getElem? (i := 25) rfl))) (ty := .byte) (by decide)
  have F2_h1 : Fld Z h1 h.size "java/lang/String" "value" "[B" .null := D_h1 (Or.inr (G.1 _ (List.mem_of_getElem? (i := 24) rfl))) (ty := .array .byte) (by decide)
  refine Wp.run ok_lns 6 16 #[.val (.ref b), .val (.int (Int32.ofNat i)), .val (.int (Int32.ofNat m))] [(.int ((Int32.ofNat i) + (Int32.ofNat m))), (.int (Int32.ofNat i)), (.ref b), (.ref h.size), (.ref h.size)] rfl ?_
  refine Wp.at #[.val (.ref b), .val (.int (Int32.ofNat i)), .val (.int (Int32.ofNat m))] [(.int (Int32.ofNat (i + m))), (.int (Int32.ofNat i)), (.ref b), (.ref h.size), (.ref h.size)] ⟨rfl, (by rw [n_add] <;> rfl)⟩ ?_
  refine Wp.callS ok_lns (argsL := [(.ref b), (.int (Int32.ofNat i)), (.int (Int32.ofNat (i + m)))]) (rest := [(.ref h.size), (.ref h.size)]) (ct_cor G (i := i) (j := i + m) (by omega) (by simpa using hm) (by omega) (by simpa using hne) h1 (A.ext E1)) G.2.1 (G.1 _ (List.mem_of_getElem? (i := 255) rfl)) (G.1 _ (List.mem_of_getElem? (i := 240) rfl)) (G.1 _ (List.mem_of_getElem? (i := 191) rfl)) (G.1 _ (List.mem_of_getElem? (i := 241) rfl)) rfl rfl (by decide) pd_cor rfl rfl (Nat.le_of_ble_eq_true rfl) (Nat.le_of_ble_eq_true rfl) (Nat.le_of_ble_eq_true rfl) (Nat.le_of_ble_eq_true rfl) all0 ?_
  rintro _ h2 ⟨d, rfl, E2, B2, hd⟩ -
  refine Wp.run ok_lns 1 20 #[.val (.ref b), .val (.int (Int32.ofNat i)), .val (.int (Int32.ofNat m))] [(.int (0 : Int32)), (.ref d), (.ref h.size), (.ref h.size)] rfl ?_
  have e2 : ((byt cs).drop i).take (i + m - i) = byt ((cs.drop i).take m) := by rw [show i + m - i = m by omega]; simp [List.map_drop, List.map_take]
  rw [e2] at B2
  refine Wp.callI ok_lns (a := h.size) (argsL := [(.ref d), (.int (0 : Int32))]) (rest := [(.ref h.size)]) (ct_sbb G (cs := (cs.drop i).take m) (hlat.sub fun x hx => List.mem_of_mem_drop (List.mem_of_mem_take hx)) (Nat.ne_of_gt (Nat.lt_of_lt_of_le X1.lt hd)) h2 (X1.ext E2) (F1_h1.ext E2) (F2_h1.ext E2) B2) G.2.1 (G.1 _ (List.mem_of_getElem? (i := 256) rfl)) (G.1 _ (List.mem_of_getElem? (i := 209) rfl)) (G.1 _ (List.mem_of_getElem? (i := 11) rfl)) (G.1 _ (List.mem_of_getElem? (i := 210) rfl)) rfl rfl rfl rfl (by decide) pd_sbb rfl rfl (Nat.le_of_ble_eq_true rfl) (Nat.le_of_ble_eq_true rfl) (Nat.le_of_ble_eq_true rfl) (Nat.le_of_ble_eq_true rfl) (allS (List.mem_of_getElem? (i := 0) rfl) all0) ?_
  rintro _ h3 ⟨rfl, K3, S3⟩ -
  exact Wp.retA ok_lns (t := (.object "java/lang/String")) rfl rfl rfl rfl rfl ⟨_, rfl, ext_keep (ext_trans E1 E2) K3 (all1 (Nat.le_refl _)), S3⟩

abbrev mt_cfz : Mth := (⟨"jdk/internal/util/Preconditions", "checkFromIndexSize", "(IIILjava/util/function/BiFunction;)I"⟩, jdk_41_method_13_code, 4, some .int)
def tb_cfz : Tab := [(0, .iload_n 2, 1), (1, .iload_n 0, 1), (2, .ior, 1), (3, .iload_n 1, 1), (4, .ior, 1), (5, .ifCond .lt 10, 3), (8, .iload_n 1, 1), (9, .iload_n 2, 1), (10, .iload_n 0, 1), (11, .isub, 1), (12, .if_icmp .le 11, 3), (15, .aload_n 3, 1), (16, .iload_n 0, 1), (17, .iload_n 1, 1), (18, .iload_n 2, 1), (19, .invokestatic 103, 3), (22, .athrow, 1), (23, .iload_n 0, 1), (24, .ireturn, 1)]
theorem ok_cfz : TabOk mt_cfz.2.1 tb_cfz := by
  intro x hx
  have q : tb_cfz.all (fun x => decide (decode jdk_41_method_13_code x.1 = .ok x.2)) = true := by decide +kernel
  exact of_decide_eq_true (List.all_eq_true.mp q x hx)
theorem pl_cfz : plainFor mt_cfz.1 = true := by first | decide +kernel | exact plainFor_of_name (by first | (simp [plainName, overriddenIn]; done) | decide +kernel)
theorem pd_cfz : parseMethodDescriptor "(IIILjava/util/function/BiFunction;)I" = some ⟨[.int, .int, .int, (.object "java/util/function/BiFunction")], some .int⟩ := by decide +kernel

set_option maxRecDepth 65536 in
set_option maxHeartbeats 4000000 in
theorem ct_cfz {l : Launch} {Z : State} {a0 : Array Value} (G : Gd Z a0) {i m n : Nat} (hm : i + m ≤ n) (h31 : n < 2 ^ 31) {f : Value} (hf : f.isRef = true) (h : Heap) :
    Ct l Z EL1 mt_cfz ({ frames := 0, cells := 0, slots := 0, locals := 0 } : Room) #[.int (Int32.ofNat i), .int (Int32.ofNat m), .int (Int32.ofNat n), f] h [] (fun v h' => v = some (.int (Int32.ofNat i)) ∧ h = h') := by
  rcases ref_cases hf with rfl | ⟨f, rfl⟩
  · refine Ct.of_wp pl_cfz G.2.1 (Ls := #[.val (.int (Int32.ofNat i)), .val (.int (Int32.ofNat m)), .val (.int (Int32.ofNat n)), .val .null]) rfl ?_
    refine Wp.run ok_cfz 5 5 #[.val (.int (Int32.ofNat i)), .val (.int (Int32.ofNat m)), .val (.int (Int32.ofNat n)), .val .null] [(.int (((Int32.ofNat n) ||| (Int32.ofNat i)) ||| (Int32.ofNat m)))] rfl ?_
    refine Wp.ifF ok_cfz rfl rfl (show ¬ (((Int32.ofNat n) ||| (Int32.ofNat i)) ||| (Int32.ofNat m)) < (0 : Int32) from or_nn h31 (by omega) (by omega)) ?_
    refine Wp.run ok_cfz 4 12 #[.val (.int (Int32.ofNat i)), .val (.int (Int32.ofNat m)), .val (.int (Int32.ofNat n)), .val .null] [(.int ((Int32.ofNat n) - (Int32.ofNat i))), (.int (Int32.ofNat m))] rfl ?_
    refine Wp.at #[.val (.int (Int32.ofNat i)), .val (.int (Int32.ofNat m)), .val (.int (Int32.ofNat n)), .val .null] [(.int (Int32.ofNat (n - i))), (.int (Int32.ofNat m))] ⟨rfl, (by rw [n_sub (show i ≤ n by omega)] <;> rfl)⟩ ?_
    refine Wp.icmpT ok_cfz 23 rfl rfl (show ¬ (Int32.ofNat (n - i)) < (Int32.ofNat m) from fun q => absurd ((n_lt (by omega) (by omega)).mp q) (by omega)) (by decide) (by decide) ?_
    refine Wp.run ok_cfz 1 24 #[.val (.int (Int32.ofNat i)), .val (.int (Int32.ofNat m)), .val (.int (Int32.ofNat n)), .val .null] [(.int (Int32.ofNat i))] rfl ?_
    exact Wp.retI ok_cfz (t := .int) rfl (by decide) rfl rfl rfl ⟨rfl, rfl⟩
  · refine Ct.of_wp pl_cfz G.2.1 (Ls := #[.val (.int (Int32.ofNat i)), .val (.int (Int32.ofNat m)), .val (.int (Int32.ofNat n)), .val (.ref f)]) rfl ?_
    refine Wp.run ok_cfz 5 5 #[.val (.int (Int32.ofNat i)), .val (.int (Int32.ofNat m)), .val (.int (Int32.ofNat n)), .val (.ref f)] [(.int (((Int32.ofNat n) ||| (Int32.ofNat i)) ||| (Int32.ofNat m)))] rfl ?_
    refine Wp.ifF ok_cfz rfl rfl (show ¬ (((Int32.ofNat n) ||| (Int32.ofNat i)) ||| (Int32.ofNat m)) < (0 : Int32) from or_nn h31 (by omega) (by omega)) ?_
    refine Wp.run ok_cfz 4 12 #[.val (.int (Int32.ofNat i)), .val (.int (Int32.ofNat m)), .val (.int (Int32.ofNat n)), .val (.ref f)] [(.int ((Int32.ofNat n) - (Int32.ofNat i))), (.int (Int32.ofNat m))] rfl ?_
    refine Wp.at #[.val (.int (Int32.ofNat i)), .val (.int (Int32.ofNat m)), .val (.int (Int32.ofNat n)), .val (.ref f)] [(.int (Int32.ofNat (n - i))), (.int (Int32.ofNat m))] ⟨rfl, (by rw [n_sub (show i ≤ n by omega)] <;> rfl)⟩ ?_
    refine Wp.icmpT ok_cfz 23 rfl rfl (show ¬ (Int32.ofNat (n - i)) < (Int32.ofNat m) from fun q => absurd ((n_lt (by omega) (by omega)).mp q) (by omega)) (by decide) (by decide) ?_
    refine Wp.run ok_cfz 1 24 #[.val (.int (Int32.ofNat i)), .val (.int (Int32.ofNat m)), .val (.int (Int32.ofNat n)), .val (.ref f)] [(.int (Int32.ofNat i))] rfl ?_
    exact Wp.retI ok_cfz (t := .int) rfl (by decide) rfl rfl rfl ⟨rfl, rfl⟩

abbrev mt_cbo : Mth := (⟨"java/lang/String", "checkBoundsOffCount", "(III)I"⟩, jdk_42_method_157_code, 3, some .int)
def tb_cbo : Tab := [(0, .iload_n 0, 1), (1, .iload_n 1, 1), (2, .iload_n 2, 1), (3, .getstatic 1053, 3), (6, .invokestatic 1065, 3), (9, .ireturn, 1)]
theorem ok_cbo : TabOk mt_cbo.2.1 tb_cbo := by
  intro x hx
  have q : tb_cbo.all (fun x => decide (decode jdk_42_method_157_code x.1 = .ok x.2)) = true := by decide +kernel
  exact of_decide_eq_true (List.all_eq_true.mp q x hx)
theorem pl_cbo : plainFor mt_cbo.1 = true := by first | decide +kernel | exact plainFor_of_name (by first | (simp [plainName, overriddenIn]; done) | decide +kernel)
theorem pd_cbo : parseMethodDescriptor "(III)I" = some ⟨[.int, .int, .int], some .int⟩ := by decide +kernel

set_option maxRecDepth 65536 in
set_option maxHeartbeats 4000000 in
theorem ct_cbo {l : Launch} {Z : State} {a0 : Array Value} (G : Gd Z a0) {i m n : Nat} (hm : i + m ≤ n) (h31 : n < 2 ^ 31) (h : Heap)  :
    Ct l Z EL1 mt_cbo ({ frames := 1, cells := 0, slots := 0, locals := 15 } : Room) #[(.int (Int32.ofNat i)), (.int (Int32.ofNat m)), (.int (Int32.ofNat n))] h [] (fun v h' => v = some (.int (Int32.ofNat i)) ∧ h = h') := by
  refine Ct.of_wp pl_cbo G.2.1 (Ls := #[.val (.int (Int32.ofNat i)), .val (.int (Int32.ofNat m)), .val (.int (Int32.ofNat n))]) rfl ?_
  obtain ⟨vF, fF, rF⟩ := G.2.2.2.1
  refine Wp.run ok_cbo 3 3 #[.val (.int (Int32.ofNat i)), .val (.int (Int32.ofNat m)), .val (.int (Int32.ofNat n))] [(.int (Int32.ofNat n)), (.int (Int32.ofNat m)), (.int (Int32.ofNat i))] rfl ?_
  refine Wp.getS ok_cbo fF (G.1 _ (List.mem_of_getElem? (i := 177) rfl)) Via.refl rfl ?_
  refine Wp.callS ok_cbo (argsL := [(.int (Int32.ofNat i)), (.int (Int32.ofNat m)), (.int (Int32.ofNat n)), vF]) (rest := []) (ct_cfz G hm h31 rF h) G.2.1 (G.1 _ (List.mem_of_getElem? (i := 236) rfl)) (G.1 _ (List.mem_of_getElem? (i := 237) rfl)) (G.1 _ (List.mem_of_getElem? (i := 178) rfl)) (G.1 _ (List.mem_of_getElem? (i := 238) rfl)) rfl rfl (by decide) pd_cfz rfl rfl (Nat.le_of_ble_eq_true rfl) (Nat.le_of_ble_eq_true rfl) (Nat.le_of_ble_eq_true rfl) (Nat.le_of_ble_eq_true rfl) all0 ?_
  rintro _ _ ⟨rfl, rfl⟩ -
  exact Wp.retI ok_cbo (t := .int) rfl (by decide) rfl rfl rfl ⟨rfl, rfl⟩

abbrev mt_uco : Mth := (⟨"java/lang/StringUTF16", "checkBoundsOffCount", "(II[B)V"⟩, jdk_52_method_94_code, 3, none)
def tb_uco : Tab := [(0, .iload_n 0, 1), (1, .iload_n 1, 1), (2, .aload_n 2, 1), (3, .invokestatic 48, 3), (6, .invokestatic 419, 3), (9, .pop, 1), (10, .return_, 1)]
theorem ok_uco : TabOk mt_uco.2.1 tb_uco := by
  intro x hx
  have q : tb_uco.all (fun x => decide (decode jdk_52_method_94_code x.1 = .ok x.2)) = true := by decide +kernel
  exact of_decide_eq_true (List.all_eq_true.mp q x hx)
theorem pl_uco : plainFor mt_uco.1 = true := by first | decide +kernel | exact plainFor_of_name (by first | (simp [plainName, overriddenIn]; done) | decide +kernel)
theorem pd_uco : parseMethodDescriptor "(II[B)V" = some ⟨[.int, .int, (.array .byte)], none⟩ := by decide +kernel

set_option maxRecDepth 65536 in
set_option maxHeartbeats 4000000 in
theorem ct_uco {l : Launch} {Z : State} {a0 : Array Value} (G : Gd Z a0) {b : Addr} {vs : List Value} {i m : Nat} (hm : i + m ≤ vs.length / 2) (h : Heap) (A : Ar Z h b .byte vs) :
    Ct l Z EL1 mt_uco ({ frames := 2, cells := 0, slots := 0, locals := 29 } : Room) #[(.int (Int32.ofNat i)), (.int (Int32.ofNat m)), (.ref b)] h [] (fun v h' => v = none ∧ h = h') := by
  refine Ct.of_wp pl_uco G.2.1 (Ls := #[.val (.int (Int32.ofNat i)), .val (.int (Int32.ofNat m)), .val (.ref b)]) rfl ?_
  have h31 := A.len
  refine Wp.run ok_uco 3 3 #[.val (.int (Int32.ofNat i)), .val (.int (Int32.ofNat m)), .val (.ref b)] [(.ref b), (.int (Int32.ofNat m)), (.int (Int32.ofNat i))] rfl ?_
  refine Wp.callS ok_uco (argsL := [(.ref b)]) (rest := [(.int (Int32.ofNat m)), (.int (Int32.ofNat i))]) (ct_uln G h A) G.2.1 (G.1 _ (List.mem_of_getElem? (i := 171) rfl)) (G.1 _ (List.mem_of_getElem? (i := 172) rfl)) (G.1 _ (List.mem_of_getElem? (i := 120) rfl)) (G.1 _ (List.mem_of_getElem? (i := 173) rfl)) rfl rfl (by decide) pd_uln rfl rfl (Nat.le_of_ble_eq_true rfl) (Nat.le_of_ble_eq_true rfl) (Nat.le_of_ble_eq_true rfl) (Nat.le_of_ble_eq_true rfl) all0 ?_
  rintro _ _ ⟨rfl, rfl⟩ -
  refine Wp.callS ok_uco (argsL := [(.int (Int32.ofNat i)), (.int (Int32.ofNat m)), (.int (Int32.ofNat (vs.length / 2)))]) (rest := []) (ct_cbo G hm (by omega) h) G.2.1 (G.1 _ (List.mem_of_getElem? (i := 233) rfl)) (G.1 _ (List.mem_of_getElem? (i := 234) rfl)) (G.1 _ (List.mem_of_getElem? (i := 11) rfl)) (G.1 _ (List.mem_of_getElem? (i := 235) rfl)) rfl rfl (by decide) pd_cbo rfl rfl (Nat.le_of_ble_eq_true rfl) (Nat.le_of_ble_eq_true rfl) (Nat.le_of_ble_eq_true rfl) (Nat.le_of_ble_eq_true rfl) all0 ?_
  rintro _ _ ⟨rfl, rfl⟩ -
  refine Wp.run ok_uco 1 10 #[.val (.int (Int32.ofNat i)), .val (.int (Int32.ofNat m)), .val (.ref b)] [] rfl ?_
  exact Wp.ret0 ok_uco rfl rfl rfl ⟨rfl, rfl⟩

abbrev mt_cb5 : Mth := (⟨"java/lang/StringUTF16", "compress", "([BI[BII)I"⟩, jdk_52_method_22_code, 7, some .int)
def tb_cb5 : Tab := [(0, .iload_n 1, 1), (1, .iload 4, 2), (3, .aload_n 0, 1), (4, .invokestatic 173, 3), (7, .iconst 0, 1), (8, .istore 5, 2), (10, .iload 5, 2), (12, .iload 4, 2), (14, .if_icmp .ge 39, 3), (17, .aload_n 0, 1), (18, .iload_n 1, 1), (19, .invokestatic 71, 3), (22, .istore 6, 2), (24, .iload 6, 2), (26, .sipush 255, 3), (29, .if_icmp .le 6, 3), (32, .iload 5, 2), (34, .ireturn, 1), (35, .aload_n 2, 1), (36, .iload_n 3, 1), (37, .iload 6, 2), (39, .i2b, 1), (40, .bastore, 1), (41, .iinc 1 1, 3), (44, .iinc 3 1, 3), (47, .iinc 5 1, 3), (50, .goto (-40), 3), (53, .iload 4, 2), (55, .ireturn, 1)]
theorem ok_cb5 : TabOk mt_cb5.2.1 tb_cb5 := by
  intro x hx
  have q : tb_cb5.all (fun x => decide (decode jdk_52_method_22_code x.1 = .ok x.2)) = true := by decide +kernel
  exact of_decide_eq_true (List.all_eq_true.mp q x hx)
theorem pl_cb5 : plainFor mt_cb5.1 = true := by first | decide +kernel | exact plainFor_of_name (by first | (simp [plainName, overriddenIn]; done) | decide +kernel)
theorem pd_cb5 : parseMethodDescriptor "([BI[BII)I" = some ⟨[(.array .byte), .int, (.array .byte), .int, .int], some .int⟩ := by decide +kernel

set_option maxRecDepth 65536 in
set_option maxHeartbeats 4000000 in
theorem lp_cb5 {l : Launch} {Z : State} {a0 : Array Value} (G : Gd Z a0) {b d : Addr} {cs : List Int32} {o m : Nat} {h : Heap} (hlat : Lat ((cs.drop o).take m)) (hw : W16 cs) (hl31 : ((cs.drop o).take m).length < 2 ^ 31) (A : Ar Z h b .byte (u16 cs)) (hbd : b ≠ d) : ∀ (r i : Nat), i + r = ((cs.drop o).take m).length → ∀ (z : Slot), Sl1 z → ∀ h1, Keep h h1 [d] → Ar Z h1 d .byte (byt (((cs.drop o).take m).take i) ++ List.replicate (((cs.drop o).take m).length - i) (.int 0)) →
    Wp l Z EL1 mt_cb5 ({ frames := 3, cells := 0, slots := 0, locals := 58 } : Room) h1 [d] 0 0 10 #[.val (.ref b), .val (.int (Int32.ofNat (o + i))), .val (.ref d), .val (.int (Int32.ofNat i)), .val (.int (Int32.ofNat ((cs.drop o).take m).length)), .val (.int (Int32.ofNat i)), z] [] (fun v h' => v = some (.int (Int32.ofNat ((cs.drop o).take m).length)) ∧ Keep h h' [d] ∧ Ar Z h' d .byte (byt ((cs.drop o).take m))) := by
  intro r
  induction r with
  | zero =>
    intro i hi z hz h1 K1 B1
    have hi0 : i = ((cs.drop o).take m).length := by omega
    refine Wp.run ok_cb5 2 14 #[.val (.ref b), .val (.int (Int32.ofNat (o + i))), .val (.ref d), .val (.int (Int32.ofNat i)), .val (.int (Int32.ofNat ((cs.drop o).take m).length)), .val (.int (Int32.ofNat i)), z] [(.int (Int32.ofNat ((cs.drop o).take m).length)), (.int (Int32.ofNat i))] rfl ?_
    refine Wp.icmpT ok_cb5 53 rfl rfl (show ¬ (Int32.ofNat i) < (Int32.ofNat ((cs.drop o).take m).length) from fun q => absurd ((n_lt (by omega) (by omega)).mp q) (by omega)) (by decide) (by decide) ?_
    refine Wp.run ok_cb5 1 55 #[.val (.ref b), .val (.int (Int32.ofNat (o + i))), .val (.ref d), .val (.int (Int32.ofNat i)), .val (.int (Int32.ofNat ((cs.drop o).take m).length)), .val (.int (Int32.ofNat i)), z] [(.int (Int32.ofNat ((cs.drop o).take m).length))] rfl ?_
    exact Wp.retI ok_cb5 (t := .int) rfl (by decide) rfl rfl rfl ⟨rfl, K1, by rw [hi0, List.take_length, Nat.sub_self] at B1; simpa using B1⟩
  | succ r ih =>
    intro i hi z hz h1 K1 B1
    obtain ⟨c, hc⟩ : ∃ c, ((cs.drop o).take m)[i]? = some c := ⟨_, List.getElem?_eq_getElem (by omega)⟩
    refine Wp.run ok_cb5 2 14 #[.val (.ref b), .val (.int (Int32.ofNat (o + i))), .val (.ref d), .val (.int (Int32.ofNat i)), .val (.int (Int32.ofNat ((cs.drop o).take m).length)), .val (.int (Int32.ofNat i)), z] [(.int (Int32.ofNat ((cs.drop o).take m).length)), (.int (Int32.ofNat i))] rfl ?_
    refine Wp.icmpF ok_cb5 rfl rfl (show (Int32.ofNat i) < (Int32.ofNat ((cs.drop o).take m).length) from (n_lt (by omega) (by omega)).mpr (by omega)) ?_
    refine Wp.run ok_cb5 2 19 #[.val (.ref b), .val (.int (Int32.ofNat (o + i))), .val (.ref d), .val (.int (Int32.ofNat i)), .val (.int (Int32.ofNat ((cs.drop o).take m).length)), .val (.int (Int32.ofNat i)), z] [(.int (Int32.ofNat (o + i))), (.ref b)] rfl ?_
    refine Wp.callS ok_cb5 (argsL := [(.ref b), (.int (Int32.ofNat (o + i)))]) (rest := []) (ct_gch G (slice_at hc) (hw.at (slice_at hc)) h1 (A.keep K1 (ninS hbd nin0))) G.2.1 (G.1 _ (List.mem_of_getElem? (i := 156) rfl)) (G.1 _ (List.mem_of_getElem? (i := 157) rfl)) (G.1 _ (List.mem_of_getElem? (i := 120) rfl)) (G.1 _ (List.mem_of_getElem? (i := 158) rfl)) rfl rfl (by decide) pd_gch rfl rfl (Nat.le_of_ble_eq_true rfl) (Nat.le_of_ble_eq_true rfl) (Nat.le_of_ble_eq_true rfl) (Nat.le_of_ble_eq_true rfl) all0 ?_
    rintro _ _ ⟨rfl, rfl⟩ -
    refine Wp.istoreS ok_cb5 hz rfl rfl rfl ?_
    refine Wp.run ok_cb5 2 29 #[.val (.ref b), .val (.int (Int32.ofNat (o + i))), .val (.ref d), .val (.int (Int32.ofNat i)), .val (.int (Int32.ofNat ((cs.drop o).take m).length)), .val (.int (Int32.ofNat i)), .val (.int c)] [(.int (255 : Int32)), (.int c)] rfl ?_
    refine Wp.icmpT ok_cb5 35 rfl rfl (show ¬ (255 : Int32) < c from Int32.not_lt.mpr (Int32.le_iff_toInt_le.mpr (by simpa using (hlat.at hc).2))) (by decide) (by decide) ?_
    refine Wp.run ok_cb5 4 40 #[.val (.ref b), .val (.int (Int32.ofNat (o + i))), .val (.ref d), .val (.int (Int32.ofNat i)), .val (.int (Int32.ofNat ((cs.drop o).take m).length)), .val (.int (Int32.ofNat i)), .val (.int c)] [(.int (lo8 c)), (.int (Int32.ofNat i)), (.ref d)] rfl ?_
    refine Wp.aput ok_cb5 B1 (List.mem_of_getElem? (i := 0) rfl) (i := i) rfl (by rw [fill_len (by omega)]; omega) rfl (fits_bt c) rfl rfl rfl ?_
    intro h2 w2 B2
    refine Wp.run ok_cb5 4 10 #[.val (.ref b), .val (.int ((Int32.ofNat (o + i)) + (1 : Int32))), .val (.ref d), .val (.int ((Int32.ofNat i) + (1 : Int32))), .val (.int (Int32.ofNat ((cs.drop o).take m).length)), .val (.int ((Int32.ofNat i) + (1 : Int32))), .val (.int c)] [] rfl ?_
    refine Wp.at #[.val (.ref b), .val (.int (Int32.ofNat (o + (i + 1)))), .val (.ref d), .val (.int (Int32.ofNat (i + 1))), .val (.int (Int32.ofNat ((cs.drop o).take m).length)), .val (.int (Int32.ofNat (i + 1))), .val (.int c)] [] ⟨by simp only [n_succ, Nat.add_assoc], rfl⟩ ?_
    refine Wp.up (Nat.le_of_ble_eq_true rfl) (Nat.le_of_ble_eq_true rfl) (Nat.le_of_ble_eq_true rfl) (Nat.le_of_ble_eq_true rfl) (fun x hx => hx) (ih (i + 1) (by omega) _ (Sl1.int _) h2 (K1.trans (wr_keep w2) (fun x hx => Or.inl hx)) ?_)
    have q : (byt (((cs.drop o).take m).take i) ++ List.replicate (((cs.drop o).take m).length - i) (Value.int 0)).set i (bt c) = byt (((cs.drop o).take m).take (i + 1)) ++ List.replicate (((cs.drop o).take m).length - (i + 1)) (Value.int 0) := fill_step hc _ rfl
    rw [← q]; exact B2

set_option maxRecDepth 65536 in
set_option maxHeartbeats 4000000 in
theorem ct_cb5 {l : Launch} {Z : State} {a0 : Array Value} (G : Gd Z a0) {b d : Addr} {cs : List Int32} {o m : Nat} (hlat : Lat ((cs.drop o).take m)) (hw : W16 cs) (hom : o ≤ cs.length) (h : Heap) (hl31 : ((cs.drop o).take m).length < 2 ^ 31) (A : Ar Z h b .byte (u16 cs)) (hbd : b ≠ d) (B : Ar Z h d .byte (List.replicate ((cs.drop o).take m).length (.int 0))) :
    Ct l Z EL1 mt_cb5 ({ frames := 3, cells := 0, slots := 0, locals := 58 } : Room) #[(.ref b), (.int (Int32.ofNat o)), (.ref d), (.int 0), (.int (Int32.ofNat ((cs.drop o).take m).length))] h [d] (fun v h' => v = some (.int (Int32.ofNat ((cs.drop o).take m).length)) ∧ Keep h h' [d] ∧ Ar Z h' d .byte (byt ((cs.drop o).take m))) := by
  refine Ct.of_wp pl_cb5 G.2.1 (Ls := #[.val (.ref b), .val (.int (Int32.ofNat o)), .val (.ref d), .val (.int 0), .val (.int (Int32.ofNat ((cs.drop o).take m).length)), .unset, .unset]) rfl ?_
  refine Wp.run ok_cb5 3 4 #[.val (.ref b), .val (.int (Int32.ofNat o)), .val (.ref d), .val (.int 0), .val (.int (Int32.ofNat ((cs.drop o).take m).length)), .unset, .unset] [(.ref b), (.int (Int32.ofNat ((cs.drop o).take m).length)), (.int (Int32.ofNat o))] rfl ?_
  refine Wp.callS ok_cb5 (argsL := [(.int (Int32.ofNat o)), (.int (Int32.ofNat ((cs.drop o).take m).length)), (.ref b)]) (rest := []) (ct_uco G (i := o) (m := ((cs.drop o).take m).length) (by rw [u16_len, List.length_take, List.length_drop]; omega) h A) G.2.1 (G.1 _ (List.mem_of_getElem? (i := 230) rfl)) (G.1 _ (List.mem_of_getElem? (i := 231) rfl)) (G.1 _ (List.mem_of_getElem? (i := 120) rfl)) (G.1 _ (List.mem_of_getElem? (i := 232) rfl)) rfl rfl (by decide) pd_uco rfl rfl (Nat.le_of_ble_eq_true rfl) (Nat.le_of_ble_eq_true rfl) (Nat.le_of_ble_eq_true rfl) (Nat.le_of_ble_eq_true rfl) all0 ?_
  rintro _ _ ⟨rfl, rfl⟩ -
  refine Wp.run ok_cb5 2 10 #[.val (.ref b), .val (.int (Int32.ofNat o)), .val (.ref d), .val (.int 0), .val (.int (Int32.ofNat ((cs.drop o).take m).length)), .val (.int (0 : Int32)), .unset] [] rfl ?_
  refine Wp.at #[.val (.ref b), .val (.int (Int32.ofNat (o + 0))), .val (.ref d), .val (.int 0), .val (.int (Int32.ofNat ((cs.drop o).take m).length)), .val (.int (0 : Int32)), .unset] [] ⟨rfl, rfl⟩ ?_
  exact lp_cb5 G hlat hw hl31 A hbd ((cs.drop o).take m).length 0 (by omega) _ Sl1.unset h (Keep.refl _ _) (by simpa using B)

set_option maxRecDepth 65536 in
set_option maxHeartbeats 4000000 in
theorem lp_cb5u {l : Launch} {Z : State} {a0 : Array Value} (G : Gd Z a0) {b d : Addr} {cs : List Int32} {o m : Nat} {h : Heap} {p : Nat} {cw : Int32} (hpc : ((cs.drop o).take m)[p]? = some cw) (hcw : 255 < cw.toInt) (hsm : ∀ j d, j < p → ((cs.drop o).take m)[j]? = some d → d.toInt ≤ 255) (hw : W16 cs) (hl31 : ((cs.drop o).take m).length < 2 ^ 31) (A : Ar Z h b .byte (u16 cs)) (hbd : b ≠ d) : ∀ (r i : Nat), i + r = p → ∀ (z : Slot), Sl1 z → ∀ h1, Keep h h1 [d] → ∀ vs : List Value, vs.length = ((cs.drop o).take m).length → Ar Z h1 d .byte vs →
    Wp l Z EL1 mt_cb5 ({ frames := 3, cells := 0, slots := 0, locals := 58 } : Room) h1 [d] 0 0 10 #[.val (.ref b), .val (.int (Int32.ofNat (o + i))), .val (.ref d), .val (.int (Int32.ofNat i)), .val (.int (Int32.ofNat ((cs.drop o).take m).length)), .val (.int (Int32.ofNat i)), z] [] (fun v h' => v = some (.int (Int32.ofNat p)) ∧ Keep h h' [d]) := by
  have hpl := (List.getElem?_eq_some_iff.mp hpc).1
  intro r
  induction r with
  | zero =>
    intro i hi z hz h1 K1 vs hvs B1
    obtain rfl : i = p := by omega
    obtain ⟨c, hc, rfl⟩ : ∃ c, ((cs.drop o).take m)[i]? = some c ∧ c = cw := ⟨_, hpc, rfl⟩
    refine Wp.run ok_cb5 2 14 #[.val (.ref b), .val (.int (Int32.ofNat (o + i))), .val (.ref d), .val (.int (Int32.ofNat i)), .val (.int (Int32.ofNat ((cs.drop o).take m).length)), .val (.int (Int32.ofNat i)), z] [(.int (Int32.ofNat ((cs.drop o).take m).length)), (.int (Int32.ofNat i))] rfl ?_
    refine Wp.icmpF ok_cb5 rfl rfl (show (Int32.ofNat i) < (Int32.ofNat ((cs.drop o).take m).length) from (n_lt (by omega) (by omega)).mpr (by omega)) ?_
    refine Wp.run ok_cb5 2 19 #[.val (.ref b), .val (.int (Int32.ofNat (o + i))), .val (.ref d), .val (.int (Int32.ofNat i)), .val (.int (Int32.ofNat ((cs.drop o).take m).length)), .val (.int (Int32.ofNat i)), z] [(.int (Int32.ofNat (o + i))), (.ref b)] rfl ?_
    refine Wp.callS ok_cb5 (argsL := [(.ref b), (.int (Int32.ofNat (o + i)))]) (rest := []) (ct_gch G (slice_at hc) (hw.at (slice_at hc)) h1 (A.keep K1 (ninS hbd nin0))) G.2.1 (G.1 _ (List.mem_of_getElem? (i := 156) rfl)) (G.1 _ (List.mem_of_getElem? (i := 157) rfl)) (G.1 _ (List.mem_of_getElem? (i := 120) rfl)) (G.1 _ (List.mem_of_getElem? (i := 158) rfl)) rfl rfl (by decide) pd_gch rfl rfl (Nat.le_of_ble_eq_true rfl) (Nat.le_of_ble_eq_true rfl) (Nat.le_of_ble_eq_true rfl) (Nat.le_of_ble_eq_true rfl) all0 ?_
    rintro _ _ ⟨rfl, rfl⟩ -
    refine Wp.istoreS ok_cb5 hz rfl rfl rfl ?_
    refine Wp.run ok_cb5 2 29 #[.val (.ref b), .val (.int (Int32.ofNat (o + i))), .val (.ref d), .val (.int (Int32.ofNat i)), .val (.int (Int32.ofNat ((cs.drop o).take m).length)), .val (.int (Int32.ofNat i)), .val (.int c)] [(.int (255 : Int32)), (.int c)] rfl ?_
    refine Wp.icmpF ok_cb5 rfl rfl (show (255 : Int32) < c from Int32.lt_iff_toInt_lt.mpr (by rw [show (255 : Int32).toInt = 255 from by decide]; exact hcw)) ?_
    refine Wp.run ok_cb5 1 34 #[.val (.ref b), .val (.int (Int32.ofNat (o + i))), .val (.ref d), .val (.int (Int32.ofNat i)), .val (.int (Int32.ofNat ((cs.drop o).take m).length)), .val (.int (Int32.ofNat i)), .val (.int c)] [(.int (Int32.ofNat i))] rfl ?_
    exact Wp.retI ok_cb5 (t := .int) rfl (by decide) rfl rfl rfl ⟨rfl, K1⟩
  | succ r ih =>
    intro i hi z hz h1 K1 vs hvs B1
    obtain ⟨c, hc⟩ : ∃ c, ((cs.drop o).take m)[i]? = some c := ⟨_, List.getElem?_eq_getElem (by omega)⟩
    refine Wp.run ok_cb5 2 14 #[.val (.ref b), .val (.int (Int32.ofNat (o + i))), .val (.ref d), .val (.int (Int32.ofNat i)), .val (.int (Int32.ofNat ((cs.drop o).take m).length)), .val (.int (Int32.ofNat i)), z] [(.int (Int32.ofNat ((cs.drop o).take m).length)), (.int (Int32.ofNat i))] rfl ?_
    refine Wp.icmpF ok_cb5 rfl rfl (show (Int32.ofNat i) < (Int32.ofNat ((cs.drop o).take m).length) from (n_lt (by omega) (by omega)).mpr (by omega)) ?_
    refine Wp.run ok_cb5 2 19 #[.val (.ref b), .val (.int (Int32.ofNat (o + i))), .val (.ref d), .val (.int (Int32.ofNat i)), .val (.int (Int32.ofNat ((cs.drop o).take m).length)), .val (.int (Int32.ofNat i)), z] [(.int (Int32.ofNat (o + i))), (.ref b)] rfl ?_
    refine Wp.callS ok_cb5 (argsL := [(.ref b), (.int (Int32.ofNat (o + i)))]) (rest := []) (ct_gch G (slice_at hc) (hw.at (slice_at hc)) h1 (A.keep K1 (ninS hbd nin0))) G.2.1 (G.1 _ (List.mem_of_getElem? (i := 156) rfl)) (G.1 _ (List.mem_of_getElem? (i := 157) rfl)) (G.1 _ (List.mem_of_getElem? (i := 120) rfl)) (G.1 _ (List.mem_of_getElem? (i := 158) rfl)) rfl rfl (by decide) pd_gch rfl rfl (Nat.le_of_ble_eq_true rfl) (Nat.le_of_ble_eq_true rfl) (Nat.le_of_ble_eq_true rfl) (Nat.le_of_ble_eq_true rfl) all0 ?_
    rintro _ _ ⟨rfl, rfl⟩ -
    refine Wp.istoreS ok_cb5 hz rfl rfl rfl ?_
    refine Wp.run ok_cb5 2 29 #[.val (.ref b), .val (.int (Int32.ofNat (o + i))), .val (.ref d), .val (.int (Int32.ofNat i)), .val (.int (Int32.ofNat ((cs.drop o).take m).length)), .val (.int (Int32.ofNat i)), .val (.int c)] [(.int (255 : Int32)), (.int c)] rfl ?_
    refine Wp.icmpT ok_cb5 35 rfl rfl (show ¬ (255 : Int32) < c from Int32.not_lt.mpr (Int32.le_iff_toInt_le.mpr (by simpa using hsm i c (by omega) hc))) (by decide) (by decide) ?_
    refine Wp.run ok_cb5 4 40 #[.val (.ref b), .val (.int (Int32.ofNat (o + i))), .val (.ref d), .val (.int (Int32.ofNat i)), .val (.int (Int32.ofNat ((cs.drop o).take m).length)), .val (.int (Int32.ofNat i)), .val (.int c)] [(.int (lo8 c)), (.int (Int32.ofNat i)), (.ref d)] rfl ?_
    refine Wp.aput ok_cb5 B1 (List.mem_of_getElem? (i := 0) rfl) (i := i) rfl (by omega) rfl (fits_bt c) rfl rfl rfl ?_
    intro h2 w2 B2
    refine Wp.run ok_cb5 4 10 #[.val (.ref b), .val (.int ((Int32.ofNat (o + i)) + (1 : Int32))), .val (.ref d), .val (.int ((Int32.ofNat i) + (1 : Int32))), .val (.int (Int32.ofNat ((cs.drop o).take m).length)), .val (.int ((Int32.ofNat i) + (1 : Int32))), .val (.int c)] [] rfl ?_
    refine Wp.at #[.val (.ref b), .val (.int (Int32.ofNat (o + (i + 1)))), .val (.ref d), .val (.int (Int32.ofNat (i + 1))), .val (.int (Int32.ofNat ((cs.drop o).take m).length)), .val (.int (Int32.ofNat (i + 1))), .val (.int c)] [] ⟨by simp only [n_succ, Nat.add_assoc], rfl⟩ ?_
    exact Wp.up (Nat.le_of_ble_eq_true rfl) (Nat.le_of_ble_eq_true rfl) (Nat.le_of_ble_eq_true rfl) (Nat.le_of_ble_eq_true rfl) (fun x hx => hx) (ih (i + 1) (by omega) _ (Sl1.int _) h2 (K1.trans (wr_keep w2) (fun x hx => Or.inl hx)) _ (by rw [List.length_set]; exact hvs) B2)

set_option maxRecDepth 65536 in
set_option maxHeartbeats 4000000 in
theorem ct_cb5u {l : Launch} {Z : State} {a0 : Array Value} (G : Gd Z a0) {b d : Addr} {cs : List Int32} {o m : Nat} {p : Nat} (hp : Wide ((cs.drop o).take m) p) (hw : W16 cs) (hom : o ≤ cs.length) (h : Heap) (hl31 : ((cs.drop o).take m).length < 2 ^ 31) (A : Ar Z h b .byte (u16 cs)) (hbd : b ≠ d) (B : Ar Z h d .byte (List.replicate ((cs.drop o).take m).length (.int 0))) :
    Ct l Z EL1 mt_cb5 ({ frames := 3, cells := 0, slots := 0, locals := 58 } : Room) #[(.ref b), (.int (Int32.ofNat o)), (.ref d), (.int 0), (.int (Int32.ofNat ((cs.drop o).take m).length))] h [d] (fun v h' => v = some (.int (Int32.ofNat p)) ∧ Keep h h' [d]) := by
  refine Ct.of_wp pl_cb5 G.2.1 (Ls := #[.val (.ref b), .val (.int (Int32.ofNat o)), .val (.ref d), .val (.int 0), .val (.int (Int32.ofNat ((cs.drop o).take m).length)), .unset, .unset]) rfl ?_
  refine Wp.run ok_cb5 3 4 #[.val (.ref b), .val (.int (Int32.ofNat o)), .val (.ref d), .val (.int 0), .val (.int (Int32.ofNat ((cs.drop o).take m).length)), .unset, .unset] [(.ref b), (.int (Int32.ofNat ((cs.drop o).take m).length)), (.int (Int32.ofNat o))] rfl ?_
  refine Wp.callS ok_cb5 (argsL := [(.int (Int32.ofNat o)), (.int (Int32.ofNat ((cs.drop o).take m).length)), (.ref b)]) (rest := []) (ct_uco G (i := o) (m := ((cs.drop o).take m).length) (by rw [u16_len, List.length_take, List.length_drop]; omega) h A) G.2.1 (G.1 _ (List.mem_of_getElem? (i := 230) rfl)) (G.1 _ (List.mem_of_getElem? (i := 231) rfl)) (G.1 _ (List.mem_of_getElem? (i := 120) rfl)) (G.1 _ (List.mem_of_getElem? (i := 232) rfl)) rfl rfl (by decide) pd_uco rfl rfl (Nat.le_of_ble_eq_true rfl) (Nat.le_of_ble_eq_true rfl) (Nat.le_of_ble_eq_true rfl) (Nat.le_of_ble_eq_true rfl) all0 ?_
  rintro _ _ ⟨rfl, rfl⟩ -
  refine Wp.run ok_cb5 2 10 #[.val (.ref b), .val (.int (Int32.ofNat o)), .val (.ref d), .val (.int 0), .val (.int (Int32.ofNat ((cs.drop o).take m).length)), .val (.int (0 : Int32)), .unset] [] rfl ?_
  refine Wp.at #[.val (.ref b), .val (.int (Int32.ofNat (o + 0))), .val (.ref d), .val (.int 0), .val (.int (Int32.ofNat ((cs.drop o).take m).length)), .val (.int (0 : Int32)), .unset] [] ⟨rfl, rfl⟩ ?_
  obtain ⟨cw, q1, q2, q3⟩ := hp
  exact lp_cb5u G q1 q2 q3 hw hl31 A hbd p 0 (by omega) _ Sl1.unset h (Keep.refl _ _) _ (by simp) B

abbrev mt_cb3 : Mth := (⟨"java/lang/StringUTF16", "compress", "([BII)[B"⟩, jdk_52_method_17_code, 6, some (.array .byte))
def tb_cb3 : Tab := [(0, .iload_n 2, 1), (1, .newarray .byte, 2), (3, .astore_n 3, 1), (4, .aload_n 0, 1), (5, .iload_n 1, 1), (6, .aload_n 3, 1), (7, .iconst 0, 1), (8, .iload_n 2, 1), (9, .invokestatic 123, 3), (12, .istore 4, 2), (14, .iload 4, 2), (16, .iload_n 2, 1), (17, .if_icmp .eq 47, 3), (20, .aload_n 0, 1), (21, .iload_n 1, 1), (22, .iconst 1, 1), (23, .ishl, 1), (24, .iload_n 1, 1), (25, .iload_n 2, 1), (26, .iadd, 1), (27, .invokestatic 11, 3), (30, .invokestatic 126, 3), (33, .astore 5, 2), (35, .aload 5, 2), (37, .iload 4, 2), (39, .invokestatic 71, 3), (42, .sipush 255, 3), (45, .if_icmp .gt 16, 3), (48, .aload 5, 2), (50, .iconst 0, 1), (51, .aload_n 3, 1), (52, .iconst 0, 1), (53, .iload_n 2, 1), (54, .invokestatic 123, 3), (57, .iload_n 2, 1), (58, .if_icmp .eq 6, 3), (61, .aload 5, 2), (63, .areturn, 1), (64, .aload_n 3, 1), (65, .areturn, 1)]
theorem ok_cb3 : TabOk mt_cb3.2.1 tb_cb3 := by
  intro x hx
  have q : tb_cb3.all (fun x => decide (decode jdk_52_method_17_code x.1 = .ok x.2)) = true := by decide +kernel
  exact of_decide_eq_true (List.all_eq_true.mp q x hx)
theorem pl_cb3 : plainFor mt_cb3.1 = true := by first | decide +kernel | exact plainFor_of_name (by first | (simp [plainName, overriddenIn]; done) | decide +kernel)
theorem pd_cb3 : parseMethodDescriptor "([BII)[B" = some ⟨[(.array .byte), .int, .int], some (.array .byte)⟩ := by decide +kernel

set_option maxRecDepth 65536 in
set_option maxHeartbeats 4000000 in
theorem ct_cb3 {l : Launch} {Z : State} {a0 : Array Value} (G : Gd Z a0) {b : Addr} {cs : List Int32} {o m : Nat} (hw : W16 cs) (hom : o + m ≤ cs.length) (hcap : cs.length ≤ 8) (hlat : Lat ((cs.drop o).take m)) (h : Heap) (A : Ar Z h b .byte (u16 cs)) :
    Ct l Z EL1 mt_cb3 ({ frames := 4, cells := 1, slots := 16, locals := 76 } : Room) #[(.ref b), (.int (Int32.ofNat o)), (.int (Int32.ofNat m))] h [] (fun v h' => ∃ d, v = some (.ref d) ∧ Ext h h' ∧ Ar Z h' d .byte (byt ((cs.drop o).take m)) ∧ h.size ≤ d) := by
  refine Ct.of_wp pl_cb3 G.2.1 (Ls := #[.val (.ref b), .val (.int (Int32.ofNat o)), .val (.int (Int32.ofNat m)), .unset, .unset, .unset]) rfl ?_
  have hsl : ((cs.drop o).take m).length = m := by rw [List.length_take, List.length_drop]; omega
  refine Wp.run ok_cb3 1 1 #[.val (.ref b), .val (.int (Int32.ofNat o)), .val (.int (Int32.ofNat m)), .unset, .unset, .unset] [(.int (Int32.ofNat m))] rfl ?_
  refine Wp.newP ok_cb3 (len := ((cs.drop o).take m).length) (cap := 16) (G.1 _ (List.mem_of_getElem? (i := 23) rfl)) rfl rfl (by rw [hsl]) (by omega) (Nat.le_of_ble_eq_true rfl) (Nat.le_of_ble_eq_true rfl) (Nat.le_of_ble_eq_true rfl) ?_
  intro h1 E1 B1
  refine Wp.run ok_cb3 6 9 #[.val (.ref b), .val (.int (Int32.ofNat o)), .val (.int (Int32.ofNat m)), .val (.ref h.size), .unset, .unset] [(.int (Int32.ofNat m)), (.int (0 : Int32)), (.ref h.size), (.int (Int32.ofNat o)), (.ref b)] rfl ?_
  have hbd : b ≠ h.size := Nat.ne_of_lt A.lt
  refine Wp.at #[.val (.ref b), .val (.int (Int32.ofNat o)), .val (.int (Int32.ofNat m)), .val (.ref h.size), .unset, .unset] [(.int (Int32.ofNat ((cs.drop o).take m).length)), (.int (0 : Int32)), (.ref h.size), (.int (Int32.ofNat o)), (.ref b)] ⟨rfl, (by rw [hsl] <;> rfl)⟩ ?_
  refine Wp.callS ok_cb3 (argsL := [(.ref b), (.int (Int32.ofNat o)), (.ref h.size), (.int (0 : Int32)), (.int (Int32.ofNat ((cs.drop o).take m).length))]) (rest := []) (ct_cb5 G hlat hw (by omega) h1 (by omega) (A.ext E1) hbd B1) G.2.1 (G.1 _ (List.mem_of_getElem? (i := 227) rfl)) (G.1 _ (List.mem_of_getElem? (i := 228) rfl)) (G.1 _ (List.mem_of_getElem? (i := 120) rfl)) (G.1 _ (List.mem_of_getElem? (i := 229) rfl)) rfl rfl (by decide) pd_cb5 rfl rfl (Nat.le_of_ble_eq_true rfl) (Nat.le_of_ble_eq_true rfl) (Nat.le_of_ble_eq_true rfl) (Nat.le_of_ble_eq_true rfl) (allS (List.mem_of_getElem? (i := 0) rfl) all0) ?_
  rintro _ h2 ⟨rfl, K2, B2⟩ -
  refine Wp.run ok_cb3 3 17 #[.val (.ref b), .val (.int (Int32.ofNat o)), .val (.int (Int32.ofNat m)), .val (.ref h.size), .val (.int (Int32.ofNat ((cs.drop o).take m).length)), .unset] [(.int (Int32.ofNat m)), (.int (Int32.ofNat ((cs.drop o).take m).length))] rfl ?_
  refine Wp.icmpT ok_cb3 64 rfl rfl (show (Int32.ofNat ((cs.drop o).take m).length) = (Int32.ofNat m) from by rw [hsl]) (by decide) (by decide) ?_
  refine Wp.run ok_cb3 1 65 #[.val (.ref b), .val (.int (Int32.ofNat o)), .val (.int (Int32.ofNat m)), .val (.ref h.size), .val (.int (Int32.ofNat ((cs.drop o).take m).length)), .unset] [(.ref h.size)] rfl ?_
  exact Wp.retA ok_cb3 (t := (.array .byte)) rfl rfl rfl rfl rfl ⟨_, rfl, ext_keep E1 K2 (all1 (Nat.le_refl _)), B2, Nat.le_refl _⟩

set_option maxRecDepth 65536 in
set_option maxHeartbeats 4000000 in
theorem ct_cb3u {l : Launch} {Z : State} {a0 : Array Value} (G : Gd Z a0) {b : Addr} {cs : List Int32} {o m : Nat} (hw : W16 cs) (hom : o + m ≤ cs.length) (hcap : cs.length ≤ 8) {p : Nat} (hp : Wide ((cs.drop o).take m) p) (hne : ¬ (o = 0 ∧ o + m = cs.length)) (h : Heap) (A : Ar Z h b .byte (u16 cs)) :
    Ct l Z EL1 mt_cb3 ({ frames := 4, cells := 2, slots := 32, locals := 76 } : Room) #[(.ref b), (.int (Int32.ofNat o)), (.int (Int32.ofNat m))] h [] (fun v h' => ∃ d, v = some (.ref d) ∧ Ext h h' ∧ Ar Z h' d .byte (u16 ((cs.drop o).take m)) ∧ h.size ≤ d) := by
  refine Ct.of_wp pl_cb3 G.2.1 (Ls := #[.val (.ref b), .val (.int (Int32.ofNat o)), .val (.int (Int32.ofNat m)), .unset, .unset, .unset]) rfl ?_
  have hsl : ((cs.drop o).take m).length = m := by rw [List.length_take, List.length_drop]; omega
  refine Wp.run ok_cb3 1 1 #[.val (.ref b), .val (.int (Int32.ofNat o)), .val (.int (Int32.ofNat m)), .unset, .unset, .unset] [(.int (Int32.ofNat m))] rfl ?_
  refine Wp.newP ok_cb3 (len := ((cs.drop o).take m).length) (cap := 16) (G.1 _ (List.mem_of_getElem? (i := 23) rfl)) rfl rfl (by rw [hsl]) (by omega) (Nat.le_of_ble_eq_true rfl) (Nat.le_of_ble_eq_true rfl) (Nat.le_of_ble_eq_true rfl) ?_
  intro h1 E1 B1
  refine Wp.run ok_cb3 6 9 #[.val (.ref b), .val (.int (Int32.ofNat o)), .val (.int (Int32.ofNat m)), .val (.ref h.size), .unset, .unset] [(.int (Int32.ofNat m)), (.int (0 : Int32)), (.ref h.size), (.int (Int32.ofNat o)), (.ref b)] rfl ?_
  have hbd : b ≠ h.size := Nat.ne_of_lt A.lt
  refine Wp.at #[.val (.ref b), .val (.int (Int32.ofNat o)), .val (.int (Int32.ofNat m)), .val (.ref h.size), .unset, .unset] [(.int (Int32.ofNat ((cs.drop o).take m).length)), (.int (0 : Int32)), (.ref h.size), (.int (Int32.ofNat o)), (.ref b)] ⟨rfl, (by rw [hsl] <;> rfl)⟩ ?_
  obtain ⟨cw, q1, q2, q3⟩ := id hp
  have hpl := (List.getElem?_eq_some_iff.mp q1).1
  refine Wp.callS ok_cb3 (argsL := [(.ref b), (.int (Int32.ofNat o)), (.ref h.size), (.int (0 : Int32)), (.int (Int32.ofNat ((cs.drop o).take m).length))]) (rest := []) (ct_cb5u G hp hw (by omega) h1 (by omega) (A.ext E1) hbd B1) G.2.1 (G.1 _ (List.mem_of_getElem? (i := 227) rfl)) (G.1 _ (List.mem_of_getElem? (i := 228) rfl)) (G.1 _ (List.mem_of_getElem? (i := 120) rfl)) (G.1 _ (List.mem_of_getElem? (i := 229) rfl)) rfl rfl (by decide) pd_cb5 rfl rfl (Nat.le_of_ble_eq_true rfl) (Nat.le_of_ble_eq_true rfl) (Nat.le_of_ble_eq_true rfl) (Nat.le_of_ble_eq_true rfl) (allS (List.mem_of_getElem? (i := 0) rfl) all0) ?_
  rintro _ h2 ⟨rfl, K2⟩ -
  have E2 : Ext h h2 := ext_keep E1 K2 (all1 (Nat.le_refl _))
  refine Wp.run ok_cb3 3 17 #[.val (.ref b), .val (.int (Int32.ofNat o)), .val (.int (Int32.ofNat m)), .val (.ref h.size), .val (.int (Int32.ofNat p)), .unset] [(.int (Int32.ofNat m)), (.int (Int32.ofNat p))] rfl ?_
  refine Wp.icmpF ok_cb3 rfl rfl (show ¬ (Int32.ofNat p) = (Int32.ofNat m) from fun q => absurd ((n_eq (by omega) (by omega)).mp q) (by omega)) ?_
  refine Wp.run ok_cb3 7 27 #[.val (.ref b), .val (.int (Int32.ofNat o)), .val (.int (Int32.ofNat m)), .val (.ref h.size), .val (.int (Int32.ofNat p)), .unset] [(.int ((Int32.ofNat o) + (Int32.ofNat m))), (.int ((Int32.ofNat o) <<< ((1 : Int32) &&& 31))), (.ref b)] rfl ?_
  refine Wp.at #[.val (.ref b), .val (.int (Int32.ofNat o)), .val (.int (Int32.ofNat m)), .val (.ref h.size), .val (.int (Int32.ofNat p)), .unset] [(.int (Int32.ofNat (o + m))), (.int (Int32.ofNat (2 * o))), (.ref b)] ⟨rfl, (by rw [n_add, n_shl1 (by omega)] <;> rfl)⟩ ?_
  refine Wp.callS ok_cb3 (argsL := [(.int (Int32.ofNat (o + m)))]) (rest := [(.int (Int32.ofNat (2 * o))), (.ref b)]) (ct_nbl G (m := o + m) (by omega) h2) G.2.1 (G.1 _ (List.mem_of_getElem? (i := 146) rfl)) (G.1 _ (List.mem_of_getElem? (i := 147) rfl)) (G.1 _ (List.mem_of_getElem? (i := 120) rfl)) (G.1 _ (List.mem_of_getElem? (i := 148) rfl)) rfl rfl (by decide) pd_nbl rfl rfl (Nat.le_of_ble_eq_true rfl) (Nat.le_of_ble_eq_true rfl) (Nat.le_of_ble_eq_true rfl) (Nat.le_of_ble_eq_true rfl) all0 ?_
  rintro _ _ ⟨rfl, rfl⟩ -
  refine Wp.callS ok_cb3 (argsL := [(.ref b), (.int (Int32.ofNat (2 * o))), (.int (Int32.ofNat (2 * (o + m))))]) (rest := []) (ct_cor G (i := 2 * o) (j := 2 * (o + m)) (by omega) (by rw [u16_len]; omega) (by omega) (by rw [u16_len]; omega) h2 (A.ext E2)) G.2.1 (G.1 _ (List.mem_of_getElem? (i := 239) rfl)) (G.1 _ (List.mem_of_getElem? (i := 240) rfl)) (G.1 _ (List.mem_of_getElem? (i := 191) rfl)) (G.1 _ (List.mem_of_getElem? (i := 241) rfl)) rfl rfl (by decide) pd_cor rfl rfl (Nat.le_of_ble_eq_true rfl) (Nat.le_of_ble_eq_true rfl) (Nat.le_of_ble_eq_true rfl) (Nat.le_of_ble_eq_true rfl) all0 ?_
  rintro _ h3 ⟨d, rfl, E3, B3, hd⟩ -
  refine Wp.run ok_cb3 3 39 #[.val (.ref b), .val (.int (Int32.ofNat o)), .val (.int (Int32.ofNat m)), .val (.ref h.size), .val (.int (Int32.ofNat p)), .val (.ref d)] [(.int (Int32.ofNat p)), (.ref d)] rfl ?_
  have e3 : ((u16 cs).drop (2 * o)).take (2 * (o + m) - 2 * o) = u16 ((cs.drop o).take m) := by rw [u16_drop, show 2 * (o + m) - 2 * o = 2 * m by omega, u16_take]
  rw [e3] at B3
  refine Wp.callS ok_cb3 (argsL := [(.ref d), (.int (Int32.ofNat p))]) (rest := []) (ct_gch G q1 (hw.at (slice_at q1)) h3 B3) G.2.1 (G.1 _ (List.mem_of_getElem? (i := 156) rfl)) (G.1 _ (List.mem_of_getElem? (i := 157) rfl)) (G.1 _ (List.mem_of_getElem? (i := 120) rfl)) (G.1 _ (List.mem_of_getElem? (i := 158) rfl)) rfl rfl (by decide) pd_gch rfl rfl (Nat.le_of_ble_eq_true rfl) (Nat.le_of_ble_eq_true rfl) (Nat.le_of_ble_eq_true rfl) (Nat.le_of_ble_eq_true rfl) all0 ?_
  rintro _ _ ⟨rfl, rfl⟩ -
  refine Wp.run ok_cb3 1 45 #[.val (.ref b), .val (.int (Int32.ofNat o)), .val (.int (Int32.ofNat m)), .val (.ref h.size), .val (.int (Int32.ofNat p)), .val (.ref d)] [(.int (255 : Int32)), (.int cw)] rfl ?_
  refine Wp.icmpT ok_cb3 61 rfl rfl (show (255 : Int32) < cw from Int32.lt_iff_toInt_lt.mpr (by rw [show (255 : Int32).toInt = 255 from by decide]; exact q2)) (by decide) (by decide) ?_
  refine Wp.run ok_cb3 1 63 #[.val (.ref b), .val (.int (Int32.ofNat o)), .val (.int (Int32.ofNat m)), .val (.ref h.size), .val (.int (Int32.ofNat p)), .val (.ref d)] [(.ref d)] rfl ?_
  exact Wp.retA ok_cb3 (t := (.array .byte)) rfl rfl rfl rfl rfl ⟨d, rfl, ext_trans E2 E3, B3, Nat.le_trans E2.1 hd⟩

set_option maxRecDepth 65536 in
set_option maxHeartbeats 4000000 in
theorem ct_sbu {l : Launch} {Z : State} {a0 : Array Value} (G : Gd Z a0) {a d : Addr} {cs : List Int32} (hw : W16 cs) (hps : 0 < cs.length) (hda : d ≠ a) (h : Heap) (X0 : Exa Z h a "java/lang/String") (F1 : Fld Z h a "java/lang/String" "coder" "B" (.int 0)) {v0 : Value} (F2 : Fld Z h a "java/lang/String" "value" "[B" v0) (A : Ar Z h d .byte (u16 cs)) :
    Ct l Z EL1 mt_sbb ({ frames := 1, cells := 0, slots := 0, locals := 12 } : Room) #[(.ref a), (.ref d), (.int 1)] h [a] (fun v h' => v = none ∧ Keep h h' [a] ∧ StrU Z h' a cs) := by
  refine Ct.of_wp pl_sbb G.2.1 (Ls := #[.val (.ref a), .val (.ref d), .val (.int 1)]) rfl ?_
  refine Wp.run ok_sbb 1 1 #[.val (.ref a), .val (.ref d), .val (.int 1)] [(.ref a)] rfl ?_
  refine Wp.initO ok_sbb (G.1 _ (List.mem_of_getElem? (i := 19) rfl)) (G.1 _ (List.mem_of_getElem? (i := 20) rfl)) (G.1 _ (List.mem_of_getElem? (i := 21) rfl)) rfl rfl rfl (Nat.le_of_ble_eq_true rfl) (Nat.le_of_ble_eq_true rfl) ?_
  refine Wp.run ok_sbb 2 6 #[.val (.ref a), .val (.ref d), .val (.int 1)] [(.ref d), (.ref a)] rfl ?_
  refine Wp.putF ok_sbb (ty := (.array .byte)) F2 X0 (List.mem_of_getElem? (i := 0) rfl) (G.1 _ (List.mem_of_getElem? (i := 28) rfl)) Via.refl (Or.inr ⟨(G.1 _ (List.mem_of_getElem? (i := 24) rfl)), rfl, rfl⟩) (G.1 _ (List.mem_of_getElem? (i := 10) rfl)) (by decide) rfl rfl rfl ?_
  intro h1 w1
  refine Wp.run ok_sbb 2 11 #[.val (.ref a), .val (.ref d), .val (.int 1)] [(.int 1), (.ref a)] rfl ?_
  refine Wp.putF ok_sbb (ty := .byte) (F1.other w1 (Or.inr (slot_ne (Or.inr (G.1 _ (List.mem_of_getElem? (i := 25) rfl))) (Or.inr (G.1 _ (List.mem_of_getElem? (i := 24) rfl))) (by decide) (t := .byte) (t' := (.array .byte)) (by decide) (by decide)))) (X0.wr w1) (List.mem_of_getElem? (i := 0) rfl) (G.1 _ (List.mem_of_getElem? (i := 29) rfl)) Via.refl (Or.inr ⟨(G.1 _ (List.mem_of_getElem? (i := 25) rfl)), rfl, rfl⟩) (G.1 _ (List.mem_of_getElem? (i := 10) rfl)) (by decide) rfl rfl rfl ?_
  intro h2 w2
  exact Wp.ret0 ok_sbb rfl rfl rfl ⟨rfl, (wr_keep w1).trans (wr_keep w2) (fun x hx => Or.inl hx), ⟨hw, hps⟩, (X0.wr w1).wr w2, (F1.other w1 (Or.inr (slot_ne (Or.inr (G.1 _ (List.mem_of_getElem? (i := 25) rfl))) (Or.inr (G.1 _ (List.mem_of_getElem? (i := 24) rfl))) (by decide) (t := .byte) (t' := (.array .byte)) (by decide) (by decide)))).same w2, d, (F2.same w1).other w2 (Or.inr (slot_ne (Or.inr (G.1 _ (List.mem_of_getElem? (i := 24) rfl))) (Or.inr (G.1 _ (List.mem_of_getElem? (i := 25) rfl))) (by decide) (t := (.array .byte)) (t' := .byte) (by decide) (by decide))), (A.other w1 hda).other w2 hda⟩

abbrev mt_uns : Mth := (⟨"java/lang/StringUTF16", "newString", "([BII)Ljava/lang/String;"⟩, jdk_52_method_69_code, 5, some (.object "java/lang/String"))
def tb_uns : Tab := [(0, .iload_n 2, 1), (1, .ifCond .ne 7, 3), (4, .ldc_w 295, 3), (7, .areturn, 1), (8, .getstatic 251, 3), (11, .ifCond .eq 28, 3), (14, .aload_n 0, 1), (15, .iload_n 1, 1), (16, .iload_n 2, 1), (17, .invokestatic 257, 3), (20, .astore_n 3, 1), (21, .aload_n 3, 1), (22, .iload_n 2, 1), (23, .invokestatic 259, 3), (26, .istore 4, 2), (28, .new 3, 3), (31, .dup, 1), (32, .aload_n 3, 1), (33, .iload 4, 2), (35, .invokespecial 263, 3), (38, .areturn, 1), (39, .iload_n 1, 1), (40, .iload_n 2, 1), (41, .iadd, 1), (42, .istore_n 3, 1), (43, .new 3, 3), (46, .dup, 1), (47, .aload_n 0, 1), (48, .iload_n 1, 1), (49, .iconst 1, 1), (50, .ishl, 1), (51, .iload_n 3, 1), (52, .iconst 1, 1), (53, .ishl, 1), (54, .invokestatic 126, 3), (57, .iconst 1, 1), (58, .invokespecial 263, 3), (61, .areturn, 1)]
theorem ok_uns : TabOk mt_uns.2.1 tb_uns := by
  intro x hx
  have q : tb_uns.all (fun x => decide (decode jdk_52_method_69_code x.1 = .ok x.2)) = true := by decide +kernel
  exact of_decide_eq_true (List.all_eq_true.mp q x hx)
theorem pl_uns : plainFor mt_uns.1 = true := by first | decide +kernel | exact plainFor_of_name (by first | (simp [plainName, overriddenIn]; done) | decide +kernel)
theorem pd_uns : parseMethodDescriptor "([BII)Ljava/lang/String;" = some ⟨[(.array .byte), .int, .int], some (.object "java/lang/String")⟩ := by decide +kernel

set_option maxRecDepth 65536 in
set_option maxHeartbeats 4000000 in
theorem ct_uns {l : Launch} {Z : State} {a0 : Array Value} (G : Gd Z a0) {b : Addr} {cs : List Int32} {o m : Nat} (hw : W16 cs) (hom : o + m ≤ cs.length) (hcap : cs.length ≤ 8) (hm0 : 0 < m) (hne : ¬ (o = 0 ∧ o + m = cs.length)) (h : Heap) (A : Ar Z h b .byte (u16 cs)) :
    Ct l Z EL1 mt_uns ({ frames := 5, cells := 3, slots := 36, locals := 93 } : Room) #[(.ref b), (.int (Int32.ofNat o)), (.int (Int32.ofNat m))] h [] (fun v h' => ∃ a, v = some (.ref a) ∧ Ext h h' ∧ StrG Z h' a ((cs.drop o).take m)) := by
  refine Ct.of_wp pl_uns G.2.1 (Ls := #[.val (.ref b), .val (.int (Int32.ofNat o)), .val (.int (Int32.ofNat m)), .unset, .unset]) rfl ?_
  have hsl : ((cs.drop o).take m).length = m := by rw [List.length_take, List.length_drop]; omega
  have hws : W16 ((cs.drop o).take m) := fun x hx => hw x (List.mem_of_mem_drop (List.mem_of_mem_take hx))
  obtain ⟨vC, fC, nC⟩ := G.2.2.1
  refine Wp.run ok_uns 1 1 #[.val (.ref b), .val (.int (Int32.ofNat o)), .val (.int (Int32.ofNat m)), .unset, .unset] [(.int (Int32.ofNat m))] rfl ?_
  refine Wp.ifT ok_uns 8 rfl rfl (show ¬ (Int32.ofNat m) = (0 : Int32) from fun z => absurd ((n_eq (by omega) (by decide)).mp z) (show m ≠ 0 by omega)) (by decide) (by decide) ?_
  refine Wp.getS ok_uns fC (G.1 _ (List.mem_of_getElem? (i := 223) rfl)) Via.refl rfl ?_
  refine Wp.ifF ok_uns rfl rfl (show ¬ vC = (0 : Int32) from nC) ?_
  refine Wp.run ok_uns 3 17 #[.val (.ref b), .val (.int (Int32.ofNat o)), .val (.int (Int32.ofNat m)), .unset, .unset] [(.int (Int32.ofNat m)), (.int (Int32.ofNat o)), (.ref b)] rfl ?_
  rcases lat_or_wide hws with hlat | ⟨p, hp⟩
  · refine Wp.callS ok_uns (argsL := [(.ref b), (.int (Int32.ofNat o)), (.int (Int32.ofNat m))]) (rest := []) (ct_cb3 G hw hom hcap hlat h A) G.2.1 (G.1 _ (List.mem_of_getElem? (i := 224) rfl)) (G.1 _ (List.mem_of_getElem? (i := 225) rfl)) (G.1 _ (List.mem_of_getElem? (i := 120) rfl)) (G.1 _ (List.mem_of_getElem? (i := 226) rfl)) rfl rfl (by decide) pd_cb3 rfl rfl (Nat.le_of_ble_eq_true rfl) (Nat.le_of_ble_eq_true rfl) (Nat.le_of_ble_eq_true rfl) (Nat.le_of_ble_eq_true rfl) all0 ?_
    rintro _ h1 ⟨d, rfl, E1, B1, hd⟩ -
    refine Wp.run ok_uns 3 23 #[.val (.ref b), .val (.int (Int32.ofNat o)), .val (.int (Int32.ofNat m)), .val (.ref d), .unset] [(.int (Int32.ofNat m)), (.ref d)] rfl ?_
    refine Wp.at #[.val (.ref b), .val (.int (Int32.ofNat o)), .val (.int (Int32.ofNat m)), .val (.ref d), .unset] [(.int (Int32.ofNat (byt ((cs.drop o).take m)).length)), (.ref d)] ⟨rfl, congrArg (fun z => [Value.int (Int32.ofNat z), .ref d]) (show m = (byt ((cs.drop o).take m)).length by rw [List.length_map, hsl])⟩ ?_
    refine Wp.callS ok_uns (argsL := [(.ref d), (.int (Int32.ofNat (byt ((cs.drop o).take m)).length))]) (rest := []) (ct_cfal G h1 B1) G.2.1 (G.1 _ (List.mem_of_getElem? (i := 248) rfl)) (G.1 _ (List.mem_of_getElem? (i := 126) rfl)) (G.1 _ (List.mem_of_getElem? (i := 120) rfl)) (G.1 _ (List.mem_of_getElem? (i := 127) rfl)) rfl rfl (by decide) pd_cfal rfl rfl (Nat.le_of_ble_eq_true rfl) (Nat.le_of_ble_eq_true rfl) (Nat.le_of_ble_eq_true rfl) (Nat.le_of_ble_eq_true rfl) all0 ?_
    rintro _ _ ⟨rfl, rfl⟩ -
    refine Wp.run ok_uns 1 28 #[.val (.ref b), .val (.int (Int32.ofNat o)), .val (.int (Int32.ofNat m)), .val (.ref d), .val (.int 0)] [] rfl ?_
    refine Wp.new ok_uns (G.1 _ (List.mem_of_getElem? (i := 249) rfl)) (G.1 _ (List.mem_of_getElem? (i := 10) rfl)) (G.1 _ (List.mem_of_getElem? (i := 11) rfl)) rfl (Nat.le_of_ble_eq_true rfl) (Nat.le_of_ble_eq_true rfl) ?_
    intro h2 E2 X2 D_h2
    have F1_h2 : Fld Z h2 h1.size "java/lang/String" "coder" "B" (.int 0) := D_h2 (Or.inr (G.1 _ (List.mem_of_getElem? (i := 25) rfl))) (ty := .byte) (by decide)
    have F2_h2 : Fld Z h2 h1.size "java/lang/String" "value" "[B" .null := D_h2 (Or.inr (G.1 _ (List.mem_of_getElem? (i := 24) rfl))) (ty := .array .byte) (by decide)
    refine Wp.run ok_uns 3 35 #[.val (.ref b), .val (.int (Int32.ofNat o)), .val (.int (Int32.ofNat m)), .val (.ref d), .val (.int 0)] [(.int 0), (.ref d), (.ref h1.size), (.ref h1.size)] rfl ?_
    refine Wp.callI ok_uns (a := h1.size) (argsL := [(.ref d), (.int 0)]) (rest := [(.ref h1.size)]) (ct_sbb G hlat (Nat.ne_of_lt B1.lt) h2 X2 F1_h2 F2_h2 (B1.ext E2)) G.2.1 (G.1 _ (List.mem_of_getElem? (i := 250) rfl)) (G.1 _ (List.mem_of_getElem? (i := 209) rfl)) (G.1 _ (List.mem_of_getElem? (i := 11) rfl)) (G.1 _ (List.mem_of_getElem? (i := 210) rfl)) rfl rfl rfl rfl (by decide) pd_sbb rfl rfl (Nat.le_of_ble_eq_true rfl) (Nat.le_of_ble_eq_true rfl) (Nat.le_of_ble_eq_true rfl) (Nat.le_of_ble_eq_true rfl) (allS (List.mem_of_getElem? (i := 0) rfl) all0) ?_
    rintro _ h3 ⟨rfl, K3, S3⟩ -
    exact Wp.retA ok_uns (t := (.object "java/lang/String")) rfl rfl rfl rfl rfl ⟨_, rfl, ext_keep (ext_trans E1 E2) K3 (all1 E1.1), Or.inl S3⟩
  · refine Wp.callS ok_uns (argsL := [(.ref b), (.int (Int32.ofNat o)), (.int (Int32.ofNat m))]) (rest := []) (ct_cb3u G hw hom hcap hp hne h A) G.2.1 (G.1 _ (List.mem_of_getElem? (i := 224) rfl)) (G.1 _ (List.mem_of_getElem? (i := 225) rfl)) (G.1 _ (List.mem_of_getElem? (i := 120) rfl)) (G.1 _ (List.mem_of_getElem? (i := 226) rfl)) rfl rfl (by decide) pd_cb3 rfl rfl (Nat.le_of_ble_eq_true rfl) (Nat.le_of_ble_eq_true rfl) (Nat.le_of_ble_eq_true rfl) (Nat.le_of_ble_eq_true rfl) all0 ?_
    rintro _ h1 ⟨d, rfl, E1, B1, hd⟩ -
    refine Wp.run ok_uns 3 23 #[.val (.ref b), .val (.int (Int32.ofNat o)), .val (.int (Int32.ofNat m)), .val (.ref d), .unset] [(.int (Int32.ofNat m)), (.ref d)] rfl ?_
    refine Wp.at #[.val (.ref b), .val (.int (Int32.ofNat o)), .val (.int (Int32.ofNat m)), .val (.ref d), .unset] [(.int (Int32.ofNat ((cs.drop o).take m).length)), (.ref d)] ⟨rfl, (by rw [hsl] <;> rfl)⟩ ?_
    refine Wp.callS ok_uns (argsL := [(.ref d), (.int (Int32.ofNat ((cs.drop o).take m).length))]) (rest := []) (ct_cfalu G (by omega) (by omega) h1 B1) G.2.1 (G.1 _ (List.mem_of_getElem? (i := 248) rfl)) (G.1 _ (List.mem_of_getElem? (i := 126) rfl)) (G.1 _ (List.mem_of_getElem? (i := 120) rfl)) (G.1 _ (List.mem_of_getElem? (i := 127) rfl)) rfl rfl (by decide) pd_cfal rfl rfl (Nat.le_of_ble_eq_true rfl) (Nat.le_of_ble_eq_true rfl) (Nat.le_of_ble_eq_true rfl) (Nat.le_of_ble_eq_true rfl) all0 ?_
    rintro _ _ ⟨rfl, rfl⟩ -
    refine Wp.run ok_uns 1 28 #[.val (.ref b), .val (.int (Int32.ofNat o)), .val (.int (Int32.ofNat m)), .val (.ref d), .val (.int 1)] [] rfl ?_
    refine Wp.new ok_uns (G.1 _ (List.mem_of_getElem? (i := 249) rfl)) (G.1 _ (List.mem_of_getElem? (i := 10) rfl)) (G.1 _ (List.mem_of_getElem? (i := 11) rfl)) rfl (Nat.le_of_ble_eq_true rfl) (Nat.le_of_ble_eq_true rfl) ?_
    intro h2 E2 X2 D_h2
    have F1_h2 : Fld Z h2 h1.size "java/lang/String" "coder" "B" (.int 0) := D_h2 (Or.inr (G.1 _ (List.mem_of_getElem? (i := 25) rfl))) (ty := .byte) (by decide)
    have F2_h2 : Fld Z h2 h1.size "java/lang/String" "value" "[B" .null := D_h2 (Or.inr (G.1 _ (List.mem_of_getElem? (i := 24) rfl))) (ty := .array .byte) (by decide)
    refine Wp.run ok_uns 3 35 #[.val (.ref b), .val (.int (Int32.ofNat o)), .val (.int (Int32.ofNat m)), .val (.ref d), .val (.int 1)] [(.int 1), (.ref d), (.ref h1.size), (.ref h1.size)] rfl ?_
    refine Wp.callI ok_uns (a := h1.size) (argsL := [(.ref d), (.int 1)]) (rest := [(.ref h1.size)]) (ct_sbu G hws (by omega) (Nat.ne_of_lt B1.lt) h2 X2 F1_h2 F2_h2 (B1.ext E2)) G.2.1 (G.1 _ (List.mem_of_getElem? (i := 250) rfl)) (G.1 _ (List.mem_of_getElem? (i := 209) rfl)) (G.1 _ (List.mem_of_getElem? (i := 11) rfl)) (G.1 _ (List.mem_of_getElem? (i := 210) rfl)) rfl rfl rfl rfl (by decide) pd_sbb rfl rfl (Nat.le_of_ble_eq_true rfl) (Nat.le_of_ble_eq_true rfl) (Nat.le_of_ble_eq_true rfl) (Nat.le_of_ble_eq_true rfl) (allS (List.mem_of_getElem? (i := 0) rfl) all0) ?_
    rintro _ h3 ⟨rfl, K3, S3⟩ -
    exact Wp.retA ok_uns (t := (.object "java/lang/String")) rfl rfl rfl rfl rfl ⟨_, rfl, ext_keep (ext_trans E1 E2) K3 (all1 E1.1), Or.inr S3⟩

abbrev mt_sub : Mth := (⟨"java/lang/String", "substring", "(II)Ljava/lang/String;"⟩, jdk_42_method_92_code, 5, some (.object "java/lang/String"))
def tb_sub : Tab := [(0, .aload_n 0, 1), (1, .invokevirtual 505, 3), (4, .istore_n 3, 1), (5, .iload_n 1, 1), (6, .iload_n 2, 1), (7, .iload_n 3, 1), (8, .invokestatic 521, 3), (11, .iload_n 1, 1), (12, .ifCond .ne 10, 3), (15, .iload_n 2, 1), (16, .iload_n 3, 1), (17, .if_icmp .ne 5, 3), (20, .aload_n 0, 1), (21, .areturn, 1), (22, .iload_n 2, 1), (23, .iload_n 1, 1), (24, .isub, 1), (25, .istore 4, 2), (27, .aload_n 0, 1), (28, .invokevirtual 492, 3), (31, .ifCond .eq 16, 3), (34, .aload_n 0, 1), (35, .getfield 9, 3), (38, .iload_n 1, 1), (39, .iload 4, 2), (41, .invokestatic 685, 3), (44, .goto 13, 3), (47, .aload_n 0, 1), (48, .getfield 9, 3), (51, .iload_n 1, 1), (52, .iload 4, 2), (54, .invokestatic 689, 3), (57, .areturn, 1)]
theorem ok_sub : TabOk mt_sub.2.1 tb_sub := by
  intro x hx
  have q : tb_sub.all (fun x => decide (decode jdk_42_method_92_code x.1 = .ok x.2)) = true := by decide +kernel
  exact of_decide_eq_true (List.all_eq_true.mp q x hx)
theorem pl_sub : plainFor mt_sub.1 = true := by first | decide +kernel | exact plainFor_of_name (by first | (simp [plainName, overriddenIn]; done) | decide +kernel)
theorem pd_sub : parseMethodDescriptor "(II)Ljava/lang/String;" = some ⟨[.int, .int], some (.object "java/lang/String")⟩ := by decide +kernel

set_option maxRecDepth 65536 in
set_option maxHeartbeats 4000000 in
theorem ct_sub {l : Launch} {Z : State} {a0 : Array Value} (G : Gd Z a0) {a : Addr} {cs : List Int32} {i j : Nat} (hi : i < j) (hj : j ≤ cs.length) (hcap : cs.length ≤ 8) (h : Heap) (S1 : StrG Z h a cs) :
    Ct l Z EL1 mt_sub ({ frames := 6, cells := 3, slots := 36, locals := 109 } : Room) #[(.ref a), (.int (Int32.ofNat i)), (.int (Int32.ofNat j))] h [] (fun v h' => ∃ d, v = some (.ref d) ∧ Ext h h' ∧ StrG Z h' d ((cs.drop i).take (j - i))) := by
  refine Ct.of_wp pl_sub G.2.1 (Ls := #[.val (.ref a), .val (.int (Int32.ofNat i)), .val (.int (Int32.ofNat j)), .unset, .unset]) rfl ?_
  have h31 := S1.len
  refine Wp.run ok_sub 1 1 #[.val (.ref a), .val (.int (Int32.ofNat i)), .val (.int (Int32.ofNat j)), .unset, .unset] [(.ref a)] rfl ?_
  refine Wp.callV ok_sub (a := a) (argsL := []) (rest := []) (ct_leng G h S1) S1.exa G.2.1 (G.1 _ (List.mem_of_getElem? (i := 62) rfl)) (G.1 _ (List.mem_of_getElem? (i := 63) rfl)) (G.1 _ (List.mem_of_getElem? (i := 65) rfl)) (G.1 _ (List.mem_of_getElem? (i := 64) rfl)) (G.1 _ (List.mem_of_getElem? (i := 11) rfl)) (G.1 _ (List.mem_of_getElem? (i := 66) rfl)) rfl rfl (by decide) pd_len rfl rfl (Nat.le_of_ble_eq_true rfl) (Nat.le_of_ble_eq_true rfl) (Nat.le_of_ble_eq_true rfl) (Nat.le_of_ble_eq_true rfl) all0 ?_
  rintro _ _ ⟨rfl, rfl⟩ -
  refine Wp.run ok_sub 4 8 #[.val (.ref a), .val (.int (Int32.ofNat i)), .val (.int (Int32.ofNat j)), .val (.int (Int32.ofNat cs.length)), .unset] [(.int (Int32.ofNat cs.length)), (.int (Int32.ofNat j)), (.int (Int32.ofNat i))] rfl ?_
  refine Wp.callS ok_sub (argsL := [(.int (Int32.ofNat i)), (.int (Int32.ofNat j)), (.int (Int32.ofNat cs.length))]) (rest := []) (ct_cbb G (by omega) hj h31 h) G.2.1 (G.1 _ (List.mem_of_getElem? (i := 219) rfl)) (G.1 _ (List.mem_of_getElem? (i := 175) rfl)) (G.1 _ (List.mem_of_getElem? (i := 11) rfl)) (G.1 _ (List.mem_of_getElem? (i := 176) rfl)) rfl rfl (by decide) pd_cbb rfl rfl (Nat.le_of_ble_eq_true rfl) (Nat.le_of_ble_eq_true rfl) (Nat.le_of_ble_eq_true rfl) (Nat.le_of_ble_eq_true rfl) all0 ?_
  rintro _ _ ⟨rfl, rfl⟩ -
  refine Wp.run ok_sub 1 12 #[.val (.ref a), .val (.int (Int32.ofNat i)), .val (.int (Int32.ofNat j)), .val (.int (Int32.ofNat cs.length)), .unset] [(.int (Int32.ofNat i))] rfl ?_
  refine Wp.if0 ok_sub 22 rfl rfl (by decide) (by decide) (fun hc => ?_) (fun hc => ?_)
  · replace hc : ¬ (Int32.ofNat i) = (0 : Int32) := hc
    refine Wp.run ok_sub 5 28 #[.val (.ref a), .val (.int (Int32.ofNat i)), .val (.int (Int32.ofNat j)), .val (.int (Int32.ofNat cs.length)), .val (.int ((Int32.ofNat j) - (Int32.ofNat i)))] [(.ref a)] rfl ?_
    refine Wp.at #[.val (.ref a), .val (.int (Int32.ofNat i)), .val (.int (Int32.ofNat j)), .val (.int (Int32.ofNat cs.length)), .val (.int (Int32.ofNat (j - i)))] [(.ref a)] ⟨(by rw [n_sub (Nat.le_of_lt hi)] <;> rfl), rfl⟩ ?_
    rcases S1 with S1 | S1
    · refine Wp.callV ok_sub (a := a) (argsL := []) (rest := []) (ct_isl G h S1.cod) S1.exa G.2.1 (G.1 _ (List.mem_of_getElem? (i := 56) rfl)) (G.1 _ (List.mem_of_getElem? (i := 57) rfl)) (G.1 _ (List.mem_of_getElem? (i := 59) rfl)) (G.1 _ (List.mem_of_getElem? (i := 58) rfl)) (G.1 _ (List.mem_of_getElem? (i := 11) rfl)) (G.1 _ (List.mem_of_getElem? (i := 60) rfl)) rfl rfl (by decide) pd_isl rfl rfl (Nat.le_of_ble_eq_true rfl) (Nat.le_of_ble_eq_true rfl) (Nat.le_of_ble_eq_true rfl) (Nat.le_of_ble_eq_true rfl) all0 ?_
      rintro _ _ ⟨rfl, rfl⟩ -
      refine Wp.ifF ok_sub rfl rfl (show ¬ 1 = (0 : Int32) from by decide) ?_
      refine Wp.run ok_sub 1 35 #[.val (.ref a), .val (.int (Int32.ofNat i)), .val (.int (Int32.ofNat j)), .val (.int (Int32.ofNat cs.length)), .val (.int (Int32.ofNat (j - i)))] [(.ref a)] rfl ?_
      obtain ⟨b, V, A⟩ := S1.val
      refine Wp.getF ok_sub V (G.1 _ (List.mem_of_getElem? (i := 28) rfl)) Via.refl rfl rfl ?_
      refine Wp.run ok_sub 2 41 #[.val (.ref a), .val (.int (Int32.ofNat i)), .val (.int (Int32.ofNat j)), .val (.int (Int32.ofNat cs.length)), .val (.int (Int32.ofNat (j - i)))] [(.int (Int32.ofNat (j - i))), (.int (Int32.ofNat i)), (.ref b)] rfl ?_
      refine Wp.callS ok_sub (argsL := [(.ref b), (.int (Int32.ofNat i)), (.int (Int32.ofNat (j - i)))]) (rest := []) (ct_lns G (i := i) (m := j - i) S1.lat (by omega) (by omega) (fun z => hc (by rw [z.1]; rfl)) (by omega) h A) G.2.1 (G.1 _ (List.mem_of_getElem? (i := 251) rfl)) (G.1 _ (List.mem_of_getElem? (i := 252) rfl)) (G.1 _ (List.mem_of_getElem? (i := 74) rfl)) (G.1 _ (List.mem_of_getElem? (i := 253) rfl)) rfl rfl (by decide) pd_lns rfl rfl (Nat.le_of_ble_eq_true rfl) (Nat.le_of_ble_eq_true rfl) (Nat.le_of_ble_eq_true rfl) (Nat.le_of_ble_eq_true rfl) all0 ?_
      rintro _ h2 ⟨a2, rfl, E2, S2⟩ -
      refine Wp.run ok_sub 1 57 #[.val (.ref a), .val (.int (Int32.ofNat i)), .val (.int (Int32.ofNat j)), .val (.int (Int32.ofNat cs.length)), .val (.int (Int32.ofNat (j - i)))] [(.ref a2)] rfl ?_
      exact Wp.retA ok_sub (t := (.object "java/lang/String")) rfl rfl rfl rfl rfl ⟨a2, rfl, E2, Or.inl S2⟩
    · refine Wp.callV ok_sub (a := a) (argsL := []) (rest := []) (ct_isu G h S1.cod) S1.exa G.2.1 (G.1 _ (List.mem_of_getElem? (i := 56) rfl)) (G.1 _ (List.mem_of_getElem? (i := 57) rfl)) (G.1 _ (List.mem_of_getElem? (i := 59) rfl)) (G.1 _ (List.mem_of_getElem? (i := 58) rfl)) (G.1 _ (List.mem_of_getElem? (i := 11) rfl)) (G.1 _ (List.mem_of_getElem? (i := 60) rfl)) rfl rfl (by decide) pd_isl rfl rfl (Nat.le_of_ble_eq_true rfl) (Nat.le_of_ble_eq_true rfl) (Nat.le_of_ble_eq_true rfl) (Nat.le_of_ble_eq_true rfl) all0 ?_
      rintro _ _ ⟨rfl, rfl⟩ -
      refine Wp.ifT ok_sub 47 rfl rfl (show 0 = (0 : Int32) from rfl) (by decide) (by decide) ?_
      refine Wp.run ok_sub 1 48 #[.val (.ref a), .val (.int (Int32.ofNat i)), .val (.int (Int32.ofNat j)), .val (.int (Int32.ofNat cs.length)), .val (.int (Int32.ofNat (j - i)))] [(.ref a)] rfl ?_
      obtain ⟨b, V, A⟩ := S1.val
      refine Wp.getF ok_sub V (G.1 _ (List.mem_of_getElem? (i := 28) rfl)) Via.refl rfl rfl ?_
      refine Wp.run ok_sub 2 54 #[.val (.ref a), .val (.int (Int32.ofNat i)), .val (.int (Int32.ofNat j)), .val (.int (Int32.ofNat cs.length)), .val (.int (Int32.ofNat (j - i)))] [(.int (Int32.ofNat (j - i))), (.int (Int32.ofNat i)), (.ref b)] rfl ?_
      refine Wp.callS ok_sub (argsL := [(.ref b), (.int (Int32.ofNat i)), (.int (Int32.ofNat (j - i)))]) (rest := []) (ct_uns G (o := i) (m := j - i) S1.w16 (by omega) hcap (by omega) (fun z => hc (by rw [z.1]; rfl)) h A) G.2.1 (G.1 _ (List.mem_of_getElem? (i := 220) rfl)) (G.1 _ (List.mem_of_getElem? (i := 221) rfl)) (G.1 _ (List.mem_of_getElem? (i := 120) rfl)) (G.1 _ (List.mem_of_getElem? (i := 222) rfl)) rfl rfl (by decide) pd_uns rfl rfl (Nat.le_of_ble_eq_true rfl) (Nat.le_of_ble_eq_true rfl) (Nat.le_of_ble_eq_true rfl) (Nat.le_of_ble_eq_true rfl) all0 ?_
      rintro _ h2 ⟨a2, rfl, E2, S2⟩ -
      exact Wp.retA ok_sub (t := (.object "java/lang/String")) rfl rfl rfl rfl rfl ⟨a2, rfl, E2, S2⟩
  · replace hc : (Int32.ofNat i) = (0 : Int32) := hc
    have hi0 : i = 0 := (n_eq (by omega) (by decide)).mp hc
    refine Wp.run ok_sub 2 17 #[.val (.ref a), .val (.int (Int32.ofNat i)), .val (.int (Int32.ofNat j)), .val (.int (Int32.ofNat cs.length)), .unset] [(.int (Int32.ofNat cs.length)), (.int (Int32.ofNat j))] rfl ?_
    refine Wp.icmp ok_sub 22 rfl rfl (by decide) (by decide) (fun hd => ?_) (fun hd => ?_)
    · replace hd : ¬ (Int32.ofNat j) = (Int32.ofNat cs.length) := hd
      refine Wp.run ok_sub 5 28 #[.val (.ref a), .val (.int (Int32.ofNat i)), .val (.int (Int32.ofNat j)), .val (.int (Int32.ofNat cs.length)), .val (.int ((Int32.ofNat j) - (Int32.ofNat i)))] [(.ref a)] rfl ?_
      refine Wp.at #[.val (.ref a), .val (.int (Int32.ofNat i)), .val (.int (Int32.ofNat j)), .val (.int (Int32.ofNat cs.length)), .val (.int (Int32.ofNat (j - i)))] [(.ref a)] ⟨(by rw [n_sub (Nat.le_of_lt hi)] <;> rfl), rfl⟩ ?_
      rcases S1 with S1 | S1
      · refine Wp.callV ok_sub (a := a) (argsL := []) (rest := []) (ct_isl G h S1.cod) S1.exa G.2.1 (G.1 _ (List.mem_of_getElem? (i := 56) rfl)) (G.1 _ (List.mem_of_getElem? (i := 57) rfl)) (G.1 _ (List.mem_of_getElem? (i := 59) rfl)) (G.1 _ (List.mem_of_getElem? (i := 58) rfl)) (G.1 _ (List.mem_of_getElem? (i := 11) rfl)) (G.1 _ (List.mem_of_getElem? (i := 60) rfl)) rfl rfl (by decide) pd_isl rfl rfl (Nat.le_of_ble_eq_true rfl) (Nat.le_of_ble_eq_true rfl) (Nat.le_of_ble_eq_true rfl) (Nat.le_of_ble_eq_true rfl) all0 ?_
        rintro _ _ ⟨rfl, rfl⟩ -
        refine Wp.ifF ok_sub rfl rfl (show ¬ 1 = (0 : Int32) from by decide) ?_
        refine Wp.run ok_sub 1 35 #[.val (.ref a), .val (.int (Int32.ofNat i)), .val (.int (Int32.ofNat j)), .val (.int (Int32.ofNat cs.length)), .val (.int (Int32.ofNat (j - i)))] [(.ref a)] rfl ?_
        obtain ⟨b, V, A⟩ := S1.val
        refine Wp.getF ok_sub V (G.1 _ (List.mem_of_getElem? (i := 28) rfl)) Via.refl rfl rfl ?_
        refine Wp.run ok_sub 2 41 #[.val (.ref a), .val (.int (Int32.ofNat i)), .val (.int (Int32.ofNat j)), .val (.int (Int32.ofNat cs.length)), .val (.int (Int32.ofNat (j - i)))] [(.int (Int32.ofNat (j - i))), (.int (Int32.ofNat i)), (.ref b)] rfl ?_
        refine Wp.callS ok_sub (argsL := [(.ref b), (.int (Int32.ofNat i)), (.int (Int32.ofNat (j - i)))]) (rest := []) (ct_lns G (i := i) (m := j - i) S1.lat (by omega) (by omega) (fun z => hd (by rw [show j = cs.length by omega])) (by omega) h A) G.2.1 (G.1 _ (List.mem_of_getElem? (i := 251) rfl)) (G.1 _ (List.mem_of_getElem? (i := 252) rfl)) (G.1 _ (List.mem_of_getElem? (i := 74) rfl)) (G.1 _ (List.mem_of_getElem? (i := 253) rfl)) rfl rfl (by decide) pd_lns rfl rfl (Nat.le_of_ble_eq_true rfl) (Nat.le_of_ble_eq_true rfl) (Nat.le_of_ble_eq_true rfl) (Nat.le_of_ble_eq_true rfl) all0 ?_
        rintro _ h2 ⟨a2, rfl, E2, S2⟩ -
        refine Wp.run ok_sub 1 57 #[.val (.ref a), .val (.int (Int32.ofNat i)), .val (.int (Int32.ofNat j)), .val (.int (Int32.ofNat cs.length)), .val (.int (Int32.ofNat (j - i)))] [(.ref a2)] rfl ?_
        exact Wp.retA ok_sub (t := (.object "java/lang/String")) rfl rfl rfl rfl rfl ⟨a2, rfl, E2, Or.inl S2⟩
      · refine Wp.callV ok_sub (a := a) (argsL := []) (rest := []) (ct_isu G h S1.cod) S1.exa G.2.1 (G.1 _ (List.mem_of_getElem? (i := 56) rfl)) (G.1 _ (List.mem_of_getElem? (i := 57) rfl)) (G.1 _ (List.mem_of_getElem? (i := 59) rfl)) (G.1 _ (List.mem_of_getElem? (i := 58) rfl)) (G.1 _ (List.mem_of_getElem? (i := 11) rfl)) (G.1 _ (List.mem_of_getElem? (i := 60) rfl)) rfl rfl (by decide) pd_isl rfl rfl (Nat.le_of_ble_eq_true rfl) (Nat.le_of_ble_eq_true rfl) (Nat.le_of_ble_eq_true rfl) (Nat.le_of_ble_eq_true rfl) all0 ?_
        rintro _ _ ⟨rfl, rfl⟩ -
        refine Wp.ifT ok_sub 47 rfl rfl (show 0 = (0 : Int32) from rfl) (by decide) (by decide) ?_
        refine Wp.run ok_sub 1 48 #[.val (.ref a), .val (.int (Int32.ofNat i)), .val (.int (Int32.ofNat j)), .val (.int (Int32.ofNat cs.length)), .val (.int (Int32.ofNat (j - i)))] [(.ref a)] rfl ?_
        obtain ⟨b, V, A⟩ := S1.val
        refine Wp.getF ok_sub V (G.1 _ (List.mem_of_getElem? (i := 28) rfl)) Via.refl rfl rfl ?_
        refine Wp.run ok_sub 2 54 #[.val (.ref a), .val (.int (Int32.ofNat i)), .val (.int (Int32.ofNat j)), .val (.int (Int32.ofNat cs.length)), .val (.int (Int32.ofNat (j - i)))] [(.int (Int32.ofNat (j - i))), (.int (Int32.ofNat i)), (.ref b)] rfl ?_
        refine Wp.callS ok_sub (argsL := [(.ref b), (.int (Int32.ofNat i)), (.int (Int32.ofNat (j - i)))]) (rest := []) (ct_uns G (o := i) (m := j - i) S1.w16 (by omega) hcap (by omega) (fun z => hd (by rw [show j = cs.length by omega])) h A) G.2.1 (G.1 _ (List.mem_of_getElem? (i := 220) rfl)) (G.1 _ (List.mem_of_getElem? (i := 221) rfl)) (G.1 _ (List.mem_of_getElem? (i := 120) rfl)) (G.1 _ (List.mem_of_getElem? (i := 222) rfl)) rfl rfl (by decide) pd_uns rfl rfl (Nat.le_of_ble_eq_true rfl) (Nat.le_of_ble_eq_true rfl) (Nat.le_of_ble_eq_true rfl) (Nat.le_of_ble_eq_true rfl) all0 ?_
        rintro _ h2 ⟨a2, rfl, E2, S2⟩ -
        exact Wp.retA ok_sub (t := (.object "java/lang/String")) rfl rfl rfl rfl rfl ⟨a2, rfl, E2, S2⟩
    · replace hd : (Int32.ofNat j) = (Int32.ofNat cs.length) := hd
      have hj0 : j = cs.length := (n_eq (by omega) (by omega)).mp hd
      refine Wp.run ok_sub 1 21 #[.val (.ref a), .val (.int (Int32.ofNat i)), .val (.int (Int32.ofNat j)), .val (.int (Int32.ofNat cs.length)), .unset] [(.ref a)] rfl ?_
      exact Wp.retA ok_sub (t := (.object "java/lang/String")) rfl rfl rfl rfl rfl ⟨a, rfl, ext_refl h, by rw [hi0, hj0, List.drop_zero, Nat.sub_zero, List.take_length]; exact S1⟩

abbrev mt_cec : Mth := (⟨"java/lang/StringLatin1", "canEncode", "(C)Z"⟩, jdk_43_method_3_code, 1, some .boolean)
def tb_cec : Tab := [(0, .iload_n 0, 1), (1, .sipush 255, 3), (4, .if_icmp .gt 7, 3), (7, .iconst 1, 1), (8, .goto 4, 3), (11, .iconst 0, 1), (12, .ireturn, 1)]
theorem ok_cec : TabOk mt_cec.2.1 tb_cec := by
  intro x hx
  have q : tb_cec.all (fun x => decide (decode jdk_43_method_3_code x.1 = .ok x.2)) = true := by decide +kernel
  exact of_decide_eq_true (List.all_eq_true.mp q x hx)
theorem pl_cec : plainFor mt_cec.1 = true := by first | decide +kernel | exact plainFor_of_name (by first | (simp [plainName, overriddenIn]; done) | decide +kernel)
theorem pd_cec : parseMethodDescriptor "(C)Z" = some ⟨[.char], some .boolean⟩ := by decide +kernel

set_option maxRecDepth 65536 in
set_option maxHeartbeats 4000000 in
theorem ct_cec {l : Launch} {Z : State} {a0 : Array Value} (G : Gd Z a0) {c : Int32} (hc : 0 ≤ c.toInt ∧ c.toInt ≤ 255) (h : Heap)  :
    Ct l Z EL1 mt_cec ({ frames := 0, cells := 0, slots := 0, locals := 0 } : Room) #[(.int c)] h [] (fun v h' => v = some (.int 1) ∧ h = h') := by
  refine Ct.of_wp pl_cec G.2.1 (Ls := #[.val (.int c)]) rfl ?_
  refine Wp.run ok_cec 2 4 #[.val (.int c)] [(.int (255 : Int32)), (.int c)] rfl ?_
  refine Wp.icmpF ok_cec rfl rfl (show ¬ (255 : Int32) < c from Int32.not_lt.mpr (Int32.le_iff_toInt_le.mpr (by simpa using hc.2))) ?_
  refine Wp.run ok_cec 2 12 #[.val (.int c)] [(.int (1 : Int32))] rfl ?_
  exact Wp.retI ok_cec (t := .boolean) rfl (by decide) rfl rfl rfl ⟨rfl, rfl⟩

abbrev mt_ltb : Mth := (⟨"java/lang/StringLatin1", "toBytes", "(C)[B"⟩, jdk_43_method_46_code, 1, some (.array .byte))
def tb_ltb : Tab := [(0, .iconst 1, 1), (1, .newarray .byte, 2), (3, .dup, 1), (4, .iconst 0, 1), (5, .iload_n 0, 1), (6, .i2b, 1), (7, .bastore, 1), (8, .areturn, 1)]
theorem ok_ltb : TabOk mt_ltb.2.1 tb_ltb := by
  intro x hx
  have q : tb_ltb.all (fun x => decide (decode jdk_43_method_46_code x.1 = .ok x.2)) = true := by decide +kernel
  exact of_decide_eq_true (List.all_eq_true.mp q x hx)
theorem pl_ltb : plainFor mt_ltb.1 = true := by first | decide +kernel | exact plainFor_of_name (by first | (simp [plainName, overriddenIn]; done) | decide +kernel)
theorem pd_ltb : parseMethodDescriptor "(C)[B" = some ⟨[.char], some (.array .byte)⟩ := by decide +kernel

set_option maxRecDepth 65536 in
set_option maxHeartbeats 4000000 in
theorem ct_ltb {l : Launch} {Z : State} {a0 : Array Value} (G : Gd Z a0) {c : Int32} (h : Heap)  :
    Ct l Z EL1 mt_ltb ({ frames := 0, cells := 1, slots := 1, locals := 0 } : Room) #[(.int c)] h [] (fun v h' => ∃ d, v = some (.ref d) ∧ Ext h h' ∧ Ar Z h' d .byte (byt [c]) ∧ h.size ≤ d) := by
  refine Ct.of_wp pl_ltb G.2.1 (Ls := #[.val (.int c)]) rfl ?_
  refine Wp.run ok_ltb 1 1 #[.val (.int c)] [(.int (1 : Int32))] rfl ?_
  refine Wp.newP ok_ltb (len := 1) (cap := 1) (G.1 _ (List.mem_of_getElem? (i := 23) rfl)) rfl rfl rfl (Nat.le_of_ble_eq_true rfl) (Nat.le_of_ble_eq_true rfl) (Nat.le_of_ble_eq_true rfl) (Nat.le_of_ble_eq_true rfl) ?_
  intro h1 E1 A1
  refine Wp.run ok_ltb 4 7 #[.val (.int c)] [(.int (lo8 c)), (.int (0 : Int32)), (.ref h.size), (.ref h.size)] rfl ?_
  refine Wp.aput ok_ltb A1 (List.mem_of_getElem? (i := 0) rfl) (i := 0) rfl (by decide) rfl (fits_bt c) rfl rfl rfl ?_
  intro h2 w2 B2
  exact Wp.retA ok_ltb (t := (.array .byte)) rfl rfl rfl rfl rfl ⟨_, rfl, ext_keep E1 (wr_keep w2) (all1 (Nat.le_refl _)), B2, Nat.le_refl _⟩

set_option maxRecDepth 65536 in
set_option maxHeartbeats 4000000 in
theorem ct_cecu {l : Launch} {Z : State} {a0 : Array Value} (G : Gd Z a0) {c : Int32} (hc : 255 < c.toInt) (h : Heap)  :
    Ct l Z EL1 mt_cec ({ frames := 0, cells := 0, slots := 0, locals := 0 } : Room) #[(.int c)] h [] (fun v h' => v = some (.int 0) ∧ h = h') := by
  refine Ct.of_wp pl_cec G.2.1 (Ls := #[.val (.int c)]) rfl ?_
  refine Wp.run ok_cec 2 4 #[.val (.int c)] [(.int (255 : Int32)), (.int c)] rfl ?_
  refine Wp.icmpT ok_cec 11 rfl rfl (show (255 : Int32) < c from Int32.lt_iff_toInt_lt.mpr (by rw [show (255 : Int32).toInt = 255 from by decide]; exact hc)) (by decide) (by decide) ?_
  refine Wp.run ok_cec 1 12 #[.val (.int c)] [(.int (0 : Int32))] rfl ?_
  exact Wp.retI ok_cec (t := .boolean) rfl (by decide) rfl rfl rfl ⟨rfl, rfl⟩

abbrev mt_utb : Mth := (⟨"java/lang/StringUTF16", "toBytes", "(C)[B"⟩, jdk_52_method_24_code, 2, some (.array .byte))
def tb_utb : Tab := [(0, .iconst 2, 1), (1, .newarray .byte, 2), (3, .astore_n 1, 1), (4, .aload_n 1, 1), (5, .iconst 0, 1), (6, .iload_n 0, 1), (7, .invokestatic 111, 3), (10, .aload_n 1, 1), (11, .areturn, 1)]
theorem ok_utb : TabOk mt_utb.2.1 tb_utb := by
  intro x hx
  have q : tb_utb.all (fun x => decide (decode jdk_52_method_24_code x.1 = .ok x.2)) = true := by decide +kernel
  exact of_decide_eq_true (List.all_eq_true.mp q x hx)
theorem pl_utb : plainFor mt_utb.1 = true := by first | decide +kernel | exact plainFor_of_name (by first | (simp [plainName, overriddenIn]; done) | decide +kernel)
theorem pd_utb : parseMethodDescriptor "(C)[B" = some ⟨[.char], some (.array .byte)⟩ := by decide +kernel

set_option maxRecDepth 65536 in
set_option maxHeartbeats 4000000 in
theorem ct_utb {l : Launch} {Z : State} {a0 : Array Value} (G : Gd Z a0) {c : Int32} (h : Heap)  :
    Ct l Z EL1 mt_utb ({ frames := 1, cells := 1, slots := 2, locals := 14 } : Room) #[(.int c)] h [] (fun v h' => ∃ d, v = some (.ref d) ∧ Ext h h' ∧ Ar Z h' d .byte (u16 [c]) ∧ h.size ≤ d) := by
  refine Ct.of_wp pl_utb G.2.1 (Ls := #[.val (.int c), .unset]) rfl ?_
  refine Wp.run ok_utb 1 1 #[.val (.int c), .unset] [(.int (2 : Int32))] rfl ?_
  refine Wp.newP ok_utb (len := 2) (cap := 2) (G.1 _ (List.mem_of_getElem? (i := 23) rfl)) rfl rfl rfl (Nat.le_of_ble_eq_true rfl) (Nat.le_of_ble_eq_true rfl) (Nat.le_of_ble_eq_true rfl) (Nat.le_of_ble_eq_true rfl) ?_
  intro h1 E1 A1
  refine Wp.run ok_utb 4 7 #[.val (.int c), .val (.ref h.size)] [(.int c), (.int (0 : Int32)), (.ref h.size)] rfl ?_
  refine Wp.at #[.val (.int c), .val (.ref h.size)] [(.int c), (.int (Int32.ofNat 0)), (.ref h.size)] ⟨rfl, rfl⟩ ?_
  refine Wp.callS ok_utb (argsL := [(.ref h.size), (.int (Int32.ofNat 0)), (.int c)]) (rest := []) (ct_pch G (i := 0) (c := c) (by decide) h1 A1) G.2.1 (G.1 _ (List.mem_of_getElem? (i := 150) rfl)) (G.1 _ (List.mem_of_getElem? (i := 151) rfl)) (G.1 _ (List.mem_of_getElem? (i := 120) rfl)) (G.1 _ (List.mem_of_getElem? (i := 152) rfl)) rfl rfl (by decide) pd_pch rfl rfl (Nat.le_of_ble_eq_true rfl) (Nat.le_of_ble_eq_true rfl) (Nat.le_of_ble_eq_true rfl) (Nat.le_of_ble_eq_true rfl) (allS (List.mem_of_getElem? (i := 0) rfl) all0) ?_
  rintro _ h2 ⟨rfl, K2, B2⟩ -
  refine Wp.run ok_utb 1 11 #[.val (.int c), .val (.ref h.size)] [(.ref h.size)] rfl ?_
  exact Wp.retA ok_utb (t := (.array .byte)) rfl rfl rfl rfl rfl ⟨_, rfl, ext_keep E1 K2 (all1 (Nat.le_refl _)), B2, Nat.le_refl _⟩

abbrev mt_voc : Mth := (⟨"java/lang/String", "valueOf", "(C)Ljava/lang/String;"⟩, jdk_42_method_139_code, 1, some (.object "java/lang/String"))
def tb_voc : Tab := [(0, .getstatic 38, 3), (3, .ifCond .eq 23, 3), (6, .iload_n 0, 1), (7, .invokestatic 1015, 3), (10, .ifCond .eq 16, 3), (13, .new 10, 3), (16, .dup, 1), (17, .iload_n 0, 1), (18, .invokestatic 1018, 3), (21, .iconst 0, 1), (22, .invokespecial 209, 3), (25, .areturn, 1), (26, .new 10, 3), (29, .dup, 1), (30, .iload_n 0, 1), (31, .invokestatic 1021, 3), (34, .iconst 1, 1), (35, .invokespecial 209, 3), (38, .areturn, 1)]
theorem ok_voc : TabOk mt_voc.2.1 tb_voc := by
  intro x hx
  have q : tb_voc.all (fun x => decide (decode jdk_42_method_139_code x.1 = .ok x.2)) = true := by decide +kernel
  exact of_decide_eq_true (List.all_eq_true.mp q x hx)
theorem pl_voc : plainFor mt_voc.1 = true := by first | decide +kernel | exact plainFor_of_name (by first | (simp [plainName, overriddenIn]; done) | decide +kernel)
theorem pd_voc : parseMethodDescriptor "(C)Ljava/lang/String;" = some ⟨[.char], some (.object "java/lang/String")⟩ := by decide +kernel

set_option maxRecDepth 65536 in
set_option maxHeartbeats 4000000 in
theorem ct_voc {l : Launch} {Z : State} {a0 : Array Value} (G : Gd Z a0) {c : Int32} (hc : 0 ≤ c.toInt ∧ c.toInt ≤ 65535) (h : Heap)  :
    Ct l Z EL1 mt_voc ({ frames := 2, cells := 2, slots := 6, locals := 29 } : Room) #[(.int c)] h [] (fun v h' => ∃ a, v = some (.ref a) ∧ Ext h h' ∧ StrG Z h' a [c]) := by
  refine Ct.of_wp pl_voc G.2.1 (Ls := #[.val (.int c)]) rfl ?_
  obtain ⟨vC, fC, nC⟩ := G.2.2.1
  refine Wp.getS ok_voc fC (G.1 _ (List.mem_of_getElem? (i := 61) rfl)) Via.refl rfl ?_
  refine Wp.ifF ok_voc rfl rfl (show ¬ vC = (0 : Int32) from nC) ?_
  refine Wp.run ok_voc 1 7 #[.val (.int c)] [(.int c)] rfl ?_
  by_cases hl : c.toInt ≤ 255
  · refine Wp.callS ok_voc (argsL := [(.int c)]) (rest := []) (ct_cec G ⟨hc.1, hl⟩ h) G.2.1 (G.1 _ (List.mem_of_getElem? (i := 201) rfl)) (G.1 _ (List.mem_of_getElem? (i := 202) rfl)) (G.1 _ (List.mem_of_getElem? (i := 74) rfl)) (G.1 _ (List.mem_of_getElem? (i := 203) rfl)) rfl rfl (by decide) pd_cec rfl rfl (Nat.le_of_ble_eq_true rfl) (Nat.le_of_ble_eq_true rfl) (Nat.le_of_ble_eq_true rfl) (Nat.le_of_ble_eq_true rfl) all0 ?_
    rintro _ _ ⟨rfl, rfl⟩ -
    refine Wp.ifF ok_voc rfl rfl (show ¬ 1 = (0 : Int32) from by decide) ?_
    refine Wp.new ok_voc (G.1 _ (List.mem_of_getElem? (i := 204) rfl)) (G.1 _ (List.mem_of_getElem? (i := 10) rfl)) (G.1 _ (List.mem_of_getElem? (i := 11) rfl)) rfl (Nat.le_of_ble_eq_true rfl) (Nat.le_of_ble_eq_true rfl) ?_
    intro h1 E1 X1 D_h1
    have F1_h1 : Fld Z h1 h.size "java/lang/String" "coder" "B" (.int 0) := D_h1 (Or.inr (G.1 _ (List.mem_of_getElem? (i := 25) rfl))) (ty := .byte) (by decide)
    have F2_h1 : Fld Z h1 h.size "java/lang/String" "value" "[B" .null := D_h1 (Or.inr (G.1 _ (List.mem_of_getElem? (i := 24) rfl))) (ty := .array .byte) (by decide)
    refine Wp.run ok_voc 2 18 #[.val (.int c)] [(.int c), (.ref h.size), (.ref h.size)] rfl ?_
    refine Wp.callS ok_voc (argsL := [(.int c)]) (rest := [(.ref h.size), (.ref h.size)]) (ct_ltb G (c := c) h1) G.2.1 (G.1 _ (List.mem_of_getElem? (i := 205) rfl)) (G.1 _ (List.mem_of_getElem? (i := 206) rfl)) (G.1 _ (List.mem_of_getElem? (i := 74) rfl)) (G.1 _ (List.mem_of_getElem? (i := 207) rfl)) rfl rfl (by decide) pd_ltb rfl rfl (Nat.le_of_ble_eq_true rfl) (Nat.le_of_ble_eq_true rfl) (Nat.le_of_ble_eq_true rfl) (Nat.le_of_ble_eq_true rfl) all0 ?_
    rintro _ h2 ⟨d, rfl, E2, B2, hd⟩ -
    refine Wp.run ok_voc 1 22 #[.val (.int c)] [(.int (0 : Int32)), (.ref d), (.ref h.size), (.ref h.size)] rfl ?_
    refine Wp.callI ok_voc (a := h.size) (argsL := [(.ref d), (.int (0 : Int32))]) (rest := [(.ref h.size)]) (ct_sbb G (cs := [c]) (Lat.cons ⟨hc.1, hl⟩ Lat.nil) (Nat.ne_of_gt (Nat.lt_of_lt_of_le X1.lt hd)) h2 (X1.ext E2) (F1_h1.ext E2) (F2_h1.ext E2) B2) G.2.1 (G.1 _ (List.mem_of_getElem? (i := 208) rfl)) (G.1 _ (List.mem_of_getElem? (i := 209) rfl)) (G.1 _ (List.mem_of_getElem? (i := 11) rfl)) (G.1 _ (List.mem_of_getElem? (i := 210) rfl)) rfl rfl rfl rfl (by decide) pd_sbb rfl rfl (Nat.le_of_ble_eq_true rfl) (Nat.le_of_ble_eq_true rfl) (Nat.le_of_ble_eq_true rfl) (Nat.le_of_ble_eq_true rfl) (allS (List.mem_of_getElem? (i := 0) rfl) all0) ?_
    rintro _ h3 ⟨rfl, K3, S3⟩ -
    exact Wp.retA ok_voc (t := (.object "java/lang/String")) rfl rfl rfl rfl rfl ⟨_, rfl, ext_keep (ext_trans E1 E2) K3 (all1 (Nat.le_refl _)), Or.inl S3⟩
  · refine Wp.callS ok_voc (argsL := [(.int c)]) (rest := []) (ct_cecu G (by omega) h) G.2.1 (G.1 _ (List.mem_of_getElem? (i := 201) rfl)) (G.1 _ (List.mem_of_getElem? (i := 202) rfl)) (G.1 _ (List.mem_of_getElem? (i := 74) rfl)) (G.1 _ (List.mem_of_getElem? (i := 203) rfl)) rfl rfl (by decide) pd_cec rfl rfl (Nat.le_of_ble_eq_true rfl) (Nat.le_of_ble_eq_true rfl) (Nat.le_of_ble_eq_true rfl) (Nat.le_of_ble_eq_true rfl) all0 ?_
    rintro _ _ ⟨rfl, rfl⟩ -
    refine Wp.ifT ok_voc 26 rfl rfl (show 0 = (0 : Int32) from rfl) (by decide) (by decide) ?_
    refine Wp.new ok_voc (G.1 _ (List.mem_of_getElem? (i := 204) rfl)) (G.1 _ (List.mem_of_getElem? (i := 10) rfl)) (G.1 _ (List.mem_of_getElem? (i := 11) rfl)) rfl (Nat.le_of_ble_eq_true rfl) (Nat.le_of_ble_eq_true rfl) ?_
    intro h1 E1 X1 D_h1
    have F1_h1 : Fld Z h1 h.size "java/lang/String" "coder" "B" (.int 0) := D_h1 (Or.inr (G.1 _ (List.mem_of_getElem? (i := 25) rfl))) (ty := .byte) (by decide)
    have F2_h1 : Fld Z h1 h.size "java/lang/String" "value" "[B" .null := D_h1 (Or.inr (G.1 _ (List.mem_of_getElem? (i := 24) rfl))) (ty := .array .byte) (by decide)
    refine Wp.run ok_voc 2 31 #[.val (.int c)] [(.int c), (.ref h.size), (.ref h.size)] rfl ?_
    refine Wp.callS ok_voc (argsL := [(.int c)]) (rest := [(.ref h.size), (.ref h.size)]) (ct_utb G (c := c) h1) G.2.1 (G.1 _ (List.mem_of_getElem? (i := 211) rfl)) (G.1 _ (List.mem_of_getElem? (i := 212) rfl)) (G.1 _ (List.mem_of_getElem? (i := 120) rfl)) (G.1 _ (List.mem_of_getElem? (i := 213) rfl)) rfl rfl (by decide) pd_utb rfl rfl (Nat.le_of_ble_eq_true rfl) (Nat.le_of_ble_eq_true rfl) (Nat.le_of_ble_eq_true rfl) (Nat.le_of_ble_eq_true rfl) all0 ?_
    rintro _ h2 ⟨d, rfl, E2, B2, hd⟩ -
    refine Wp.run ok_voc 1 35 #[.val (.int c)] [(.int (1 : Int32)), (.ref d), (.ref h.size), (.ref h.size)] rfl ?_
    refine Wp.callI ok_voc (a := h.size) (argsL := [(.ref d), (.int (1 : Int32))]) (rest := [(.ref h.size)]) (ct_sbu G (cs := [c]) (fun x hx => by rcases List.mem_singleton.mp hx with rfl; exact hc) (by simp) (Nat.ne_of_gt (Nat.lt_of_lt_of_le X1.lt hd)) h2 (X1.ext E2) (F1_h1.ext E2) (F2_h1.ext E2) B2) G.2.1 (G.1 _ (List.mem_of_getElem? (i := 208) rfl)) (G.1 _ (List.mem_of_getElem? (i := 209) rfl)) (G.1 _ (List.mem_of_getElem? (i := 11) rfl)) (G.1 _ (List.mem_of_getElem? (i := 210) rfl)) rfl rfl rfl rfl (by decide) pd_sbb rfl rfl (Nat.le_of_ble_eq_true rfl) (Nat.le_of_ble_eq_true rfl) (Nat.le_of_ble_eq_true rfl) (Nat.le_of_ble_eq_true rfl) (allS (List.mem_of_getElem? (i := 0) rfl) all0) ?_
    rintro _ h3 ⟨rfl, K3, S3⟩ -
    exact Wp.retA ok_voc (t := (.object "java/lang/String")) rfl rfl rfl rfl rfl ⟨_, rfl, ext_keep (ext_trans E1 E2) K3 (all1 (Nat.le_refl _)), Or.inr S3⟩
end Jvm.Pilot.@@N@@
namespace Jvm.Pilot.@@N@@
open Jvm Jvm.ClassFile Sem Op Lib Jvm.Free Jvm.Stand Jvm.LawKit Jvm.RoadKit Bundle Jvm.Pilot.@@N@@.Jvm.D Jvm.Pilot.@@N@@.Kw
abbrev mt_cpo : Mth := (⟨"java/lang/StringCoding", "countPositives", "([BII)I"⟩, jdk_123_method_3_code, 5, some .int)
def tb_cpo : Tab := [(0, .iload_n 1, 1), (1, .iload_n 2, 1), (2, .iadd, 1), (3, .istore_n 3, 1), (4, .iload_n 1, 1), (5, .istore 4, 2), (7, .iload 4, 2), (9, .iload_n 3, 1), (10, .if_icmp .ge 21, 3), (13, .aload_n 0, 1), (14, .iload 4, 2), (16, .baload, 1), (17, .ifCond .ge 8, 3), (20, .iload 4, 2), (22, .iload_n 1, 1), (23, .isub, 1), (24, .ireturn, 1), (25, .iinc 4 1, 3), (28, .goto (-21), 3), (31, .iload_n 2, 1), (32, .ireturn, 1)]
theorem ok_cpo : TabOk mt_cpo.2.1 tb_cpo := by
  intro x hx
  have q : tb_cpo.all (fun x => decide (decode jdk_123_method_3_code x.1 = .ok x.2)) = true := by decide +kernel
  exact of_decide_eq_true (List.all_eq_true.mp q x hx)
theorem pl_cpo : plainFor mt_cpo.1 = true := by first | decide +kernel | exact plainFor_of_name (by first | (simp [plainName, overriddenIn]; done) | decide +kernel)
theorem pd_cpo : parseMethodDescriptor "([BII)I" = some ⟨[(.array .byte), .int, .int], some .int⟩ := by decide +kernel

set_option maxRecDepth 65536 in
set_option maxHeartbeats 4000000 in
theorem lp_cpo {l : Launch} {Z : State} {a0 : Array Value} (G : Gd Z a0) {b : Addr} {cs : List Int32} {h : Heap} (hl : Lat cs) (A : Ar Z h b .byte (byt cs)) (h31 : cs.length < 2 ^ 31) : ∀ (r i : Nat), i + r = cs.length → (∀ j d, j < i → cs[j]? = some d → d.toInt < 128) →
    Wp l Z EL1 mt_cpo ({ frames := 0, cells := 0, slots := 0, locals := 0 } : Room) h [] 0 0 7 #[.val (.ref b), .val (.int 0), .val (.int (Int32.ofNat cs.length)), .val (.int (Int32.ofNat cs.length)), .val (.int (Int32.ofNat i))] [] (fun v h' => ∃ r : Int32, v = some (.int r) ∧ h = h' ∧ ((r = Int32.ofNat cs.length ∧ ∀ c ∈ cs, c.toInt < 128) ∨ ∃ p, p < cs.length ∧ r = Int32.ofNat p)) := by
  intro r
  induction r with
  | zero =>
    intro i hi hp
    refine Wp.run ok_cpo 2 10 #[.val (.ref b), .val (.int 0), .val (.int (Int32.ofNat cs.length)), .val (.int (Int32.ofNat cs.length)), .val (.int (Int32.ofNat i))] [(.int (Int32.ofNat cs.length)), (.int (Int32.ofNat i))] rfl ?_
    refine Wp.icmpT ok_cpo 31 rfl rfl (show ¬ (Int32.ofNat i) < (Int32.ofNat cs.length) from fun q => absurd ((n_lt (by omega) (by omega)).mp q) (by omega)) (by decide) (by decide) ?_
    refine Wp.run ok_cpo 1 32 #[.val (.ref b), .val (.int 0), .val (.int (Int32.ofNat cs.length)), .val (.int (Int32.ofNat cs.length)), .val (.int (Int32.ofNat i))] [(.int (Int32.ofNat cs.length))] rfl ?_
    exact Wp.retI ok_cpo (t := .int) rfl (by decide) rfl rfl rfl ⟨_, rfl, rfl, Or.inl ⟨rfl, fun c hc => by obtain ⟨j, hj⟩ := List.getElem?_of_mem hc; exact hp j c (by have := (List.getElem?_eq_some_iff.mp hj).1; omega) hj⟩⟩
  | succ r ih =>
    intro i hi hp
    obtain ⟨c, hc⟩ : ∃ c, cs[i]? = some c := ⟨_, List.getElem?_eq_getElem (by omega)⟩
    refine Wp.run ok_cpo 2 10 #[.val (.ref b), .val (.int 0), .val (.int (Int32.ofNat cs.length)), .val (.int (Int32.ofNat cs.length)), .val (.int (Int32.ofNat i))] [(.int (Int32.ofNat cs.length)), (.int (Int32.ofNat i))] rfl ?_
    refine Wp.icmpF ok_cpo rfl rfl (show (Int32.ofNat i) < (Int32.ofNat cs.length) from (n_lt (by omega) (by omega)).mpr (by omega)) ?_
    refine Wp.run ok_cpo 2 16 #[.val (.ref b), .val (.int 0), .val (.int (Int32.ofNat cs.length)), .val (.int (Int32.ofNat cs.length)), .val (.int (Int32.ofNat i))] [(.int (Int32.ofNat i)), (.ref b)] rfl ?_
    refine Wp.aget ok_cpo A (i := i) (v := (.int (lo8 c))) rfl (by simp [hc]) rfl rfl rfl ?_
    refine Wp.if0 ok_cpo 25 rfl rfl (by decide) (by decide) (fun hd => ?_) (fun hd => ?_)
    · replace hd : ¬ (lo8 c) < (0 : Int32) := hd
      refine Wp.run ok_cpo 2 7 #[.val (.ref b), .val (.int 0), .val (.int (Int32.ofNat cs.length)), .val (.int (Int32.ofNat cs.length)), .val (.int ((Int32.ofNat i) + (1 : Int32)))] [] rfl ?_
      refine Wp.at #[.val (.ref b), .val (.int 0), .val (.int (Int32.ofNat cs.length)), .val (.int (Int32.ofNat cs.length)), .val (.int (Int32.ofNat (i + 1)))] [] ⟨by simp only [n_succ], rfl⟩ ?_
      refine ih (i + 1) (by omega) (fun j d hj hd2 => ?_)
      rcases Nat.lt_succ_iff_lt_or_eq.mp hj with z | z
      · exact hp j d z hd2
      · subst z; cases Option.some.inj (hd2.symm.trans hc); exact Int.not_le.mp (fun y => hd ((lo8_sign (hl.at hc)).mpr y))
    · replace hd : (lo8 c) < (0 : Int32) := hd
      refine Wp.run ok_cpo 3 24 #[.val (.ref b), .val (.int 0), .val (.int (Int32.ofNat cs.length)), .val (.int (Int32.ofNat cs.length)), .val (.int (Int32.ofNat i))] [(.int ((Int32.ofNat i) - 0))] rfl ?_
      refine Wp.at #[.val (.ref b), .val (.int 0), .val (.int (Int32.ofNat cs.length)), .val (.int (Int32.ofNat cs.length)), .val (.int (Int32.ofNat i))] [(.int (Int32.ofNat i))] ⟨rfl, (by rw [Int32.sub_zero] <;> rfl)⟩ ?_
      exact Wp.retI ok_cpo (t := .int) rfl (by decide) rfl rfl rfl ⟨_, rfl, rfl, Or.inr ⟨i, by omega, rfl⟩⟩

set_option maxRecDepth 65536 in
set_option maxHeartbeats 4000000 in
theorem ct_cpo {l : Launch} {Z : State} {a0 : Array Value} (G : Gd Z a0) {b : Addr} {cs : List Int32} (hl : Lat cs) (h : Heap) (A : Ar Z h b .byte (byt cs)) :
    Ct l Z EL1 mt_cpo ({ frames := 0, cells := 0, slots := 0, locals := 0 } : Room) #[(.ref b), (.int 0), (.int (Int32.ofNat cs.length))] h [] (fun v h' => ∃ r : Int32, v = some (.int r) ∧ h = h' ∧ ((r = Int32.ofNat cs.length ∧ ∀ c ∈ cs, c.toInt < 128) ∨ ∃ p, p < cs.length ∧ r = Int32.ofNat p)) := by
  refine Ct.of_wp pl_cpo G.2.1 (Ls := #[.val (.ref b), .val (.int 0), .val (.int (Int32.ofNat cs.length)), .unset, .unset]) rfl ?_
  have h31 : cs.length < 2 ^ 31 := by simpa using A.len
  refine Wp.run ok_cpo 6 7 #[.val (.ref b), .val (.int 0), .val (.int (Int32.ofNat cs.length)), .val (.int (0 + (Int32.ofNat cs.length))), .val (.int 0)] [] rfl ?_
  refine Wp.at #[.val (.ref b), .val (.int 0), .val (.int (Int32.ofNat cs.length)), .val (.int (Int32.ofNat cs.length)), .val (.int (Int32.ofNat 0))] [] ⟨(by rw [Int32.zero_add] <;> rfl), rfl⟩ ?_
  exact lp_cpo G hl A h31 cs.length 0 (by omega) (fun j d hj => absurd hj (Nat.not_lt_zero _))

abbrev mt_hng : Mth := (⟨"java/lang/StringCoding", "hasNegatives", "([BII)Z"⟩, jdk_123_method_2_code, 3, some .boolean)
def tb_hng : Tab := [(0, .aload_n 0, 1), (1, .iload_n 1, 1), (2, .iload_n 2, 1), (3, .invokestatic 7, 3), (6, .iload_n 2, 1), (7, .if_icmp .eq 7, 3), (10, .iconst 1, 1), (11, .goto 4, 3), (14, .iconst 0, 1), (15, .ireturn, 1)]
theorem ok_hng : TabOk mt_hng.2.1 tb_hng := by
  intro x hx
  have q : tb_hng.all (fun x => decide (decode jdk_123_method_2_code x.1 = .ok x.2)) = true := by decide +kernel
  exact of_decide_eq_true (List.all_eq_true.mp q x hx)
theorem pl_hng : plainFor mt_hng.1 = true := by first | decide +kernel | exact plainFor_of_name (by first | (simp [plainName, overriddenIn]; done) | decide +kernel)
theorem pd_hng : parseMethodDescriptor "([BII)Z" = some ⟨[(.array .byte), .int, .int], some .boolean⟩ := by decide +kernel

set_option maxRecDepth 65536 in
set_option maxHeartbeats 4000000 in
theorem ct_hng {l : Launch} {Z : State} {a0 : Array Value} (G : Gd Z a0) {b : Addr} {cs : List Int32} (hl : Lat cs) (h : Heap) (A : Ar Z h b .byte (byt cs)) :
    Ct l Z EL1 mt_hng ({ frames := 1, cells := 0, slots := 0, locals := 16 } : Room) #[(.ref b), (.int 0), (.int (Int32.ofNat cs.length))] h [] (fun v h' => ∃ r : Int32, v = some (.int r) ∧ h = h' ∧ ((r = 0 ∧ ∀ c ∈ cs, c.toInt < 128) ∨ r = 1)) := by
  refine Ct.of_wp pl_hng G.2.1 (Ls := #[.val (.ref b), .val (.int 0), .val (.int (Int32.ofNat cs.length))]) rfl ?_
  have h31 : cs.length < 2 ^ 31 := by simpa using A.len
  refine Wp.run ok_hng 3 3 #[.val (.ref b), .val (.int 0), .val (.int (Int32.ofNat cs.length))] [(.int (Int32.ofNat cs.length)), (.int 0), (.ref b)] rfl ?_
  refine Wp.callS ok_hng (argsL := [(.ref b), (.int 0), (.int (Int32.ofNat cs.length))]) (rest := []) (ct_cpo G hl h A) G.2.1 (G.1 _ (List.mem_of_getElem? (i := 105) rfl)) (G.1 _ (List.mem_of_getElem? (i := 106) rfl)) (G.1 _ (List.mem_of_getElem? (i := 103) rfl)) (G.1 _ (List.mem_of_getElem? (i := 107) rfl)) rfl rfl (by decide) pd_cpo rfl rfl (Nat.le_of_ble_eq_true rfl) (Nat.le_of_ble_eq_true rfl) (Nat.le_of_ble_eq_true rfl) (Nat.le_of_ble_eq_true rfl) all0 ?_
  rintro _ _ ⟨r, rfl, rfl, hr⟩ -
  refine Wp.run ok_hng 1 7 #[.val (.ref b), .val (.int 0), .val (.int (Int32.ofNat cs.length))] [(.int (Int32.ofNat cs.length)), (.int r)] rfl ?_
  rcases hr with ⟨rfl, hr⟩ | ⟨p, hp, rfl⟩
  · refine Wp.icmpT ok_hng 14 rfl rfl (show (Int32.ofNat cs.length) = (Int32.ofNat cs.length) from rfl) (by decide) (by decide) ?_
    refine Wp.run ok_hng 1 15 #[.val (.ref b), .val (.int 0), .val (.int (Int32.ofNat cs.length))] [(.int (0 : Int32))] rfl ?_
    exact Wp.retI ok_hng (t := .boolean) rfl (by decide) rfl rfl rfl ⟨_, rfl, rfl, Or.inl ⟨rfl, hr⟩⟩
  · refine Wp.icmpF ok_hng rfl rfl (show ¬ (Int32.ofNat p) = (Int32.ofNat cs.length) from fun z => absurd ((n_eq (by omega) (by omega)).mp z) (by omega)) ?_
    refine Wp.run ok_hng 2 15 #[.val (.ref b), .val (.int 0), .val (.int (Int32.ofNat cs.length))] [(.int (1 : Int32))] rfl ?_
    exact Wp.retI ok_hng (t := .boolean) rfl (by decide) rfl rfl rfl ⟨_, rfl, rfl, Or.inr rfl⟩

abbrev mt_cof : Mth := (⟨"java/util/Arrays", "copyOf", "([BI)[B"⟩, jdk_65_method_121_code, 3, some (.array .byte))
def tb_cof : Tab := [(0, .iload_n 1, 1), (1, .aload_n 0, 1), (2, .arraylength, 1), (3, .if_icmp .ne 11, 3), (6, .aload_n 0, 1), (7, .invokevirtual 310, 3), (10, .checkcast 311, 3), (13, .areturn, 1), (14, .iload_n 1, 1), (15, .newarray .byte, 2), (17, .astore_n 2, 1), (18, .aload_n 0, 1), (19, .iconst 0, 1), (20, .aload_n 2, 1), (21, .iconst 0, 1), (22, .aload_n 0, 1), (23, .arraylength, 1), (24, .iload_n 1, 1), (25, .invokestatic 304, 3), (28, .invokestatic 150, 3), (31, .aload_n 2, 1), (32, .areturn, 1)]
theorem ok_cof : TabOk mt_cof.2.1 tb_cof := by
  intro x hx
  have q : tb_cof.all (fun x => decide (decode jdk_65_method_121_code x.1 = .ok x.2)) = true := by decide +kernel
  exact of_decide_eq_true (List.all_eq_true.mp q x hx)
theorem pl_cof : plainFor mt_cof.1 = true := by first | decide +kernel | exact plainFor_of_name (by first | (simp [plainName, overriddenIn]; done) | decide +kernel)
theorem pd_cof : parseMethodDescriptor "([BI)[B" = some ⟨[(.array .byte), .int], some (.array .byte)⟩ := by decide +kernel

set_option maxRecDepth 65536 in
set_option maxHeartbeats 4000000 in
theorem ct_cof {l : Launch} {Z : State} {a0 : Array Value} (G : Gd Z a0) {a : Addr} {vs : List Value} {m : Nat} (hm : m < vs.length) (hcap : m ≤ 16) (h : Heap) (A : Ar Z h a .byte vs) :
    Ct l Z EL1 mt_cof ({ frames := 1, cells := 1, slots := 16, locals := 18 } : Room) #[(.ref a), (.int (Int32.ofNat m))] h [] (fun v h' => ∃ d, v = some (.ref d) ∧ Ext h h' ∧ Ar Z h' d .byte (vs.take m)) := by
  refine Ct.of_wp pl_cof G.2.1 (Ls := #[.val (.ref a), .val (.int (Int32.ofNat m)), .unset]) rfl ?_
  have h31 := A.len
  refine Wp.run ok_cof 2 2 #[.val (.ref a), .val (.int (Int32.ofNat m)), .unset] [(.ref a), (.int (Int32.ofNat m))] rfl ?_
  refine Wp.alen ok_cof A rfl rfl ?_
  refine Wp.icmpT ok_cof 14 rfl rfl (show ¬ (Int32.ofNat m) = (Int32.ofNat vs.length) from fun q => absurd ((n_eq (by omega) (by omega)).mp q) (by omega)) (by decide) (by decide) ?_
  refine Wp.run ok_cof 1 15 #[.val (.ref a), .val (.int (Int32.ofNat m)), .unset] [(.int (Int32.ofNat m))] rfl ?_
  refine Wp.newP ok_cof (len := m) (cap := 16) (G.1 _ (List.mem_of_getElem? (i := 23) rfl)) rfl rfl rfl hcap (Nat.le_of_ble_eq_true rfl) (Nat.le_of_ble_eq_true rfl) (Nat.le_of_ble_eq_true rfl) ?_
  intro h1 E1 B1
  refine Wp.run ok_cof 6 23 #[.val (.ref a), .val (.int (Int32.ofNat m)), .val (.ref h.size)] [(.ref a), (.int (0 : Int32)), (.ref h.size), (.int (0 : Int32)), (.ref a)] rfl ?_
  refine Wp.alen ok_cof (A.ext E1) rfl rfl ?_
  refine Wp.run ok_cof 1 25 #[.val (.ref a), .val (.int (Int32.ofNat m)), .val (.ref h.size)] [(.int (Int32.ofNat m)), (.int (Int32.ofNat vs.length)), (.int (0 : Int32)), (.ref h.size), (.int (0 : Int32)), (.ref a)] rfl ?_
  refine Wp.callS ok_cof (argsL := [(.int (Int32.ofNat vs.length)), (.int (Int32.ofNat m))]) (rest := [(.int (0 : Int32)), (.ref h.size), (.int (0 : Int32)), (.ref a)]) (ct_min G (x := Int32.ofNat vs.length) (y := Int32.ofNat m) h1) G.2.1 (G.1 _ (List.mem_of_getElem? (i := 193) rfl)) (G.1 _ (List.mem_of_getElem? (i := 84) rfl)) (G.1 _ (List.mem_of_getElem? (i := 81) rfl)) (G.1 _ (List.mem_of_getElem? (i := 85) rfl)) rfl rfl (by decide) pd_min rfl rfl (Nat.le_of_ble_eq_true rfl) (Nat.le_of_ble_eq_true rfl) (Nat.le_of_ble_eq_true rfl) (Nat.le_of_ble_eq_true rfl) all0 ?_
  rintro _ _ ⟨rfl, rfl⟩ -
  refine Wp.at #[.val (.ref a), .val (.int (Int32.ofNat m)), .val (.ref h.size)] [(.int (Int32.ofNat m)), (.int (0 : Int32)), (.ref h.size), (.int (0 : Int32)), (.ref a)] ⟨rfl, (by rw [if_pos ((n_lt (by omega) (by omega)).mpr hm)] <;> rfl)⟩ ?_
  refine Wp.acopy ok_cof (i := 0) (j := 0) (len := m) (A.ext E1) B1 (List.mem_of_getElem? (i := 0) rfl) rfl rfl rfl rfl (by omega) (by simp) (G.1 _ (List.mem_of_getElem? (i := 194) rfl)) (G.1 _ (List.mem_of_getElem? (i := 197) rfl)) (G.1 _ (List.mem_of_getElem? (i := 195) rfl)) (G.1 _ (List.mem_of_getElem? (i := 196) rfl)) rfl rfl rfl (Nat.le_of_ble_eq_true rfl) (Nat.le_of_ble_eq_true rfl) ?_
  intro h2 K2 B2
  refine Wp.run ok_cof 1 32 #[.val (.ref a), .val (.int (Int32.ofNat m)), .val (.ref h.size)] [(.ref h.size)] rfl ?_
  exact Wp.retA ok_cof (t := (.array .byte)) rfl rfl rfl rfl rfl ⟨_, rfl, ext_keep E1 K2 (all1 (Nat.le_refl _)), by simpa using B2⟩

abbrev mt_en8 : Mth := (⟨"java/lang/String", "encodeUTF8", "(B[BZ)[B"⟩, jdk_42_method_46_code, 9, some (.array .byte))
def tb_en8 : Tab := [(0, .iload_n 0, 1), (1, .iconst 1, 1), (2, .if_icmp .ne 9, 3), (5, .aload_n 1, 1), (6, .iload_n 2, 1), (7, .invokestatic 473, 3), (10, .areturn, 1), (11, .aload_n 1, 1), (12, .iconst 0, 1), (13, .aload_n 1, 1), (14, .arraylength, 1), (15, .invokestatic 128, 3), (18, .ifCond .ne 11, 3), (21, .aload_n 1, 1), (22, .invokevirtual 279, 3), (25, .checkcast 280, 3), (28, .areturn, 1), (29, .iconst 0, 1), (30, .istore_n 3, 1), (31, .aload_n 1, 1), (32, .arraylength, 1), (33, .invokestatic 60, 3), (36, .astore 4, 2), (38, .aload_n 1, 1), (39, .astore 5, 2), (41, .aload 5, 2), (43, .arraylength, 1), (44, .istore 6, 2), (46, .iconst 0, 1), (47, .istore 7, 2), (49, .iload 7, 2), (51, .iload 6, 2), (53, .if_icmp .ge 71, 3), (56, .aload 5, 2), (58, .iload 7, 2), (60, .baload, 1), (61, .istore 8, 2), (63, .iload 8, 2), (65, .ifCond .ge 44, 3), (68, .aload 4, 2), (70, .iload_n 3, 1), (71, .iinc 3 1, 3), (74, .sipush 192, 3), (77, .iload 8, 2), (79, .sipush 255, 3), (82, .iand, 1), (83, .bipush 6, 2), (85, .ishr, 1), (86, .ior, 1), (87, .i2b, 1), (88, .bastore, 1), (89, .aload 4, 2), (91, .iload_n 3, 1), (92, .iinc 3 1, 3), (95, .sipush 128, 3), (98, .iload 8, 2), (100, .bipush 63, 2), (102, .iand, 1), (103, .ior, 1), (104, .i2b, 1), (105, .bastore, 1), (106, .goto 12, 3), (109, .aload 4, 2), (111, .iload_n 3, 1), (112, .iinc 3 1, 3), (115, .iload 8, 2), (117, .bastore, 1), (118, .iinc 7 1, 3), (121, .goto (-72), 3), (124, .iload_n 3, 1), (125, .aload 4, 2), (127, .arraylength, 1), (128, .if_icmp .ne 6, 3), (131, .aload 4, 2), (133, .areturn, 1), (134, .aload 4, 2), (136, .iload_n 3, 1), (137, .invokestatic 102, 3), (140, .areturn, 1)]
theorem ok_en8 : TabOk mt_en8.2.1 tb_en8 := by
  intro x hx
  have q : tb_en8.all (fun x => decide (decode jdk_42_method_46_code x.1 = .ok x.2)) = true := by decide +kernel
  exact of_decide_eq_true (List.all_eq_true.mp q x hx)
theorem pl_en8 : plainFor mt_en8.1 = true := by first | decide +kernel | exact plainFor_of_name (by first | (simp [plainName, overriddenIn]; done) | decide +kernel)
theorem pd_en8 : parseMethodDescriptor "(B[BZ)[B" = some ⟨[.byte, (.array .byte), .boolean], some (.array .byte)⟩ := by decide +kernel

theorem enc_len {P : List Int32} {c : Int32} : Int32.ofNat P.length + (1 : Int32) = Int32.ofNat (P ++ [c]).length := by rw [List.length_append]; exact n_succ _

set_option maxRecDepth 65536 in
set_option maxHeartbeats 4000000 in
theorem lp_en8 {l : Launch} {Z : State} {a0 : Array Value} (G : Gd Z a0) {b d : Addr} {cs : List Int32} {h h1 : Heap} (hl : Lat cs) (hcap : cs.length ≤ 8) (hul : (utf8 cs).length ≤ 2 * cs.length) (A : Ar Z h b .byte (byt cs)) (E1 : Ext h h1) (hd : h.size ≤ d) (hbd : b ≠ d) : ∀ (r i : Nat), i + r = cs.length → ∀ (z : Slot), Sl1 z → ∀ h2, Keep h1 h2 [d] → Ar Z h2 d .byte (Fil (utf8 (cs.take i)) (2 * cs.length)) →
    Wp l Z EL1 mt_en8 ({ frames := 2, cells := 2, slots := 48, locals := 56 } : Room) h2 [d] 1 32 49 #[.val (.int 0), .val (.ref b), .val (.int 1), .val (.int (Int32.ofNat (utf8 (cs.take i)).length)), .val (.ref d), .val (.ref b), .val (.int (Int32.ofNat cs.length)), .val (.int (Int32.ofNat i)), z] [] (fun v h' => ∃ d, v = some (.ref d) ∧ Ext h h' ∧ Ar Z h' d .byte (byt (utf8 cs))) := by
  intro r
  induction r with
  | zero =>
    intro i hi z hz h2 K2 B2
    refine Wp.run ok_en8 2 53 #[.val (.int 0), .val (.ref b), .val (.int 1), .val (.int (Int32.ofNat (utf8 (cs.take i)).length)), .val (.ref d), .val (.ref b), .val (.int (Int32.ofNat cs.length)), .val (.int (Int32.ofNat i)), z] [(.int (Int32.ofNat cs.length)), (.int (Int32.ofNat i))] rfl ?_
    refine Wp.icmpT ok_en8 124 rfl rfl (show ¬ (Int32.ofNat i) < (Int32.ofNat cs.length) from fun q => absurd ((n_lt (by omega) (by omega)).mp q) (by omega)) (by decide) (by decide) ?_
    obtain rfl : i = cs.length := by omega
    rw [List.take_length] at B2
    refine Wp.at #[.val (.int 0), .val (.ref b), .val (.int 1), .val (.int (Int32.ofNat (utf8 cs).length)), .val (.ref d), .val (.ref b), .val (.int (Int32.ofNat cs.length)), .val (.int (Int32.ofNat cs.length)), z] [] ⟨(by rw [List.take_length] <;> rfl), rfl⟩ ?_
    refine Wp.run ok_en8 2 127 #[.val (.int 0), .val (.ref b), .val (.int 1), .val (.int (Int32.ofNat (utf8 cs).length)), .val (.ref d), .val (.ref b), .val (.int (Int32.ofNat cs.length)), .val (.int (Int32.ofNat cs.length)), z] [(.ref d), (.int (Int32.ofNat (utf8 cs).length))] rfl ?_
    refine Wp.alen ok_en8 B2 rfl rfl ?_
    refine Wp.at #[.val (.int 0), .val (.ref b), .val (.int 1), .val (.int (Int32.ofNat (utf8 cs).length)), .val (.ref d), .val (.ref b), .val (.int (Int32.ofNat cs.length)), .val (.int (Int32.ofNat cs.length)), z] [(.int (Int32.ofNat (2 * cs.length))), (.int (Int32.ofNat (utf8 cs).length))] ⟨rfl, (by rw [fil_len hul] <;> rfl)⟩ ?_
    refine Wp.icmp ok_en8 134 rfl rfl (by decide) (by decide) (fun hq => ?_) (fun hq => ?_)
    · replace hq : ¬ (Int32.ofNat (utf8 cs).length) = (Int32.ofNat (2 * cs.length)) := hq
      have hlt : (utf8 cs).length < 2 * cs.length := Nat.lt_of_le_of_ne hul (fun e => hq (by rw [e]))
      refine Wp.run ok_en8 2 137 #[.val (.int 0), .val (.ref b), .val (.int 1), .val (.int (Int32.ofNat (utf8 cs).length)), .val (.ref d), .val (.ref b), .val (.int (Int32.ofNat cs.length)), .val (.int (Int32.ofNat cs.length)), z] [(.int (Int32.ofNat (utf8 cs).length)), (.ref d)] rfl ?_
      refine Wp.callS ok_en8 (argsL := [(.ref d), (.int (Int32.ofNat (utf8 cs).length))]) (rest := []) (ct_cof G (m := (utf8 cs).length) (by rw [fil_len hul]; exact hlt) (by omega) h2 B2) G.2.1 (G.1 _ (List.mem_of_getElem? (i := 189) rfl)) (G.1 _ (List.mem_of_getElem? (i := 190) rfl)) (G.1 _ (List.mem_of_getElem? (i := 191) rfl)) (G.1 _ (List.mem_of_getElem? (i := 192) rfl)) rfl rfl (by decide) pd_cof rfl rfl (Nat.le_of_ble_eq_true rfl) (Nat.le_of_ble_eq_true rfl) (Nat.le_of_ble_eq_true rfl) (Nat.le_of_ble_eq_true rfl) all0 ?_
      rintro _ h3 ⟨d2, rfl, E3, B3⟩ -
      exact Wp.retA ok_en8 (t := (.array .byte)) rfl rfl rfl rfl rfl ⟨d2, rfl, ext_trans (ext_keep E1 K2 (all1 hd)) E3, by rw [fil_take] at B3; exact B3⟩
    · replace hq : (Int32.ofNat (utf8 cs).length) = (Int32.ofNat (2 * cs.length)) := hq
      have heq : (utf8 cs).length = 2 * cs.length := (n_eq (by omega) (by omega)).mp hq
      refine Wp.run ok_en8 1 133 #[.val (.int 0), .val (.ref b), .val (.int 1), .val (.int (Int32.ofNat (utf8 cs).length)), .val (.ref d), .val (.ref b), .val (.int (Int32.ofNat cs.length)), .val (.int (Int32.ofNat cs.length)), z] [(.ref d)] rfl ?_
      exact Wp.retA ok_en8 (t := (.array .byte)) rfl rfl rfl rfl rfl ⟨d, rfl, ext_keep E1 K2 (all1 hd), by rw [← heq, fil_full] at B2; exact B2⟩
  | succ r ih =>
    intro i hi z hz h2 K2 B2
    obtain ⟨c, hc⟩ : ∃ c, cs[i]? = some c := ⟨_, List.getElem?_eq_getElem (by omega)⟩
    refine Wp.run ok_en8 2 53 #[.val (.int 0), .val (.ref b), .val (.int 1), .val (.int (Int32.ofNat (utf8 (cs.take i)).length)), .val (.ref d), .val (.ref b), .val (.int (Int32.ofNat cs.length)), .val (.int (Int32.ofNat i)), z] [(.int (Int32.ofNat cs.length)), (.int (Int32.ofNat i))] rfl ?_
    refine Wp.icmpF ok_en8 rfl rfl (show (Int32.ofNat i) < (Int32.ofNat cs.length) from (n_lt (by omega) (by omega)).mpr (by omega)) ?_
    refine Wp.run ok_en8 2 60 #[.val (.int 0), .val (.ref b), .val (.int 1), .val (.int (Int32.ofNat (utf8 (cs.take i)).length)), .val (.ref d), .val (.ref b), .val (.int (Int32.ofNat cs.length)), .val (.int (Int32.ofNat i)), z] [(.int (Int32.ofNat i)), (.ref b)] rfl ?_
    refine Wp.aget ok_en8 ((A.ext E1).keep K2 (ninS hbd nin0)) (i := i) (v := (.int (lo8 c))) rfl (by simp [hc]) rfl rfl rfl ?_
    refine Wp.istoreS ok_en8 hz rfl rfl rfl ?_
    refine Wp.run ok_en8 1 65 #[.val (.int 0), .val (.ref b), .val (.int 1), .val (.int (Int32.ofNat (utf8 (cs.take i)).length)), .val (.ref d), .val (.ref b), .val (.int (Int32.ofNat cs.length)), .val (.int (Int32.ofNat i)), .val (.int (lo8 c))] [(.int (lo8 c))] rfl ?_
    have hL := hl.at hc
    have hU := utf8_len (cs.take i)
    have hti : (cs.take i).length = i := by rw [List.length_take]; omega
    have hst := utf8_step hc
    refine Wp.if0 ok_en8 109 rfl rfl (by decide) (by decide) (fun hs => ?_) (fun hs => ?_)
    · replace hs : ¬ (lo8 c) < (0 : Int32) := hs
      have hlow : c.toInt < 128 := Int.not_le.mp (fun y => hs ((lo8_sign hL).mpr y))
      rw [u8, if_pos hlow] at hst
      refine Wp.run ok_en8 4 117 #[.val (.int 0), .val (.ref b), .val (.int 1), .val (.int ((Int32.ofNat (utf8 (cs.take i)).length) + (1 : Int32))), .val (.ref d), .val (.ref b), .val (.int (Int32.ofNat cs.length)), .val (.int (Int32.ofNat i)), .val (.int (lo8 c))] [(.int (lo8 c)), (.int (Int32.ofNat (utf8 (cs.take i)).length)), (.ref d)] rfl ?_
      refine Wp.aput ok_en8 B2 (List.mem_of_getElem? (i := 0) rfl) (i := (utf8 (cs.take i)).length) rfl (by rw [fil_len (by omega)]; omega) rfl (fits_bt _) rfl rfl rfl ?_
      intro h3 w3 XB3
      have B3 : Ar Z h3 d .byte (Fil ((utf8 (cs.take i)) ++ [c]) (2 * cs.length)) := by rw [← fil_set (by omega)]; exact XB3
      refine Wp.run ok_en8 2 49 #[.val (.int 0), .val (.ref b), .val (.int 1), .val (.int ((Int32.ofNat (utf8 (cs.take i)).length) + (1 : Int32))), .val (.ref d), .val (.ref b), .val (.int (Int32.ofNat cs.length)), .val (.int ((Int32.ofNat i) + (1 : Int32))), .val (.int (lo8 c))] [] rfl ?_
      refine Wp.at #[.val (.int 0), .val (.ref b), .val (.int 1), .val (.int (Int32.ofNat (utf8 (cs.take (i + 1))).length)), .val (.ref d), .val (.ref b), .val (.int (Int32.ofNat cs.length)), .val (.int (Int32.ofNat (i + 1))), .val (.int (lo8 c))] [] ⟨by simp only [n_succ, hst, List.length_append, List.length_cons, List.length_nil], rfl⟩ ?_
      exact Wp.up (Nat.le_of_ble_eq_true rfl) (Nat.le_of_ble_eq_true rfl) (Nat.le_of_ble_eq_true rfl) (Nat.le_of_ble_eq_true rfl) (fun x hx => hx) (ih (i + 1) (by omega) _ (Sl1.int _) h3 (K2.trans (wr_keep w3) (fun x hx => Or.inl hx)) (by rw [hst]; exact B3))
    · replace hs : (lo8 c) < (0 : Int32) := hs
      have hhi : ¬ c.toInt < 128 := Int.not_lt.mpr ((lo8_sign hL).mp hs)
      rw [u8, if_neg hhi] at hst
      refine Wp.run ok_en8 11 88 #[.val (.int 0), .val (.ref b), .val (.int 1), .val (.int ((Int32.ofNat (utf8 (cs.take i)).length) + (1 : Int32))), .val (.ref d), .val (.ref b), .val (.int (Int32.ofNat cs.length)), .val (.int (Int32.ofNat i)), .val (.int (lo8 c))] [(.int (lo8 ((192 : Int32) ||| (((lo8 c) &&& (255 : Int32)) >>> ((6 : Int32) &&& 31))))), (.int (Int32.ofNat (utf8 (cs.take i)).length)), (.ref d)] rfl ?_
      refine Wp.at #[.val (.int 0), .val (.ref b), .val (.int 1), .val (.int ((Int32.ofNat (utf8 (cs.take i)).length) + (1 : Int32))), .val (.ref d), .val (.ref b), .val (.int (Int32.ofNat cs.length)), .val (.int (Int32.ofNat i)), .val (.int (lo8 c))] [(.int (lo8 (b1 c))), (.int (Int32.ofNat (utf8 (cs.take i)).length)), (.ref d)] ⟨rfl, (by rw [lo8_and hL] <;> rfl)⟩ ?_
      refine Wp.aput ok_en8 B2 (List.mem_of_getElem? (i := 0) rfl) (i := (utf8 (cs.take i)).length) rfl (by rw [fil_len (by omega)]; omega) rfl (fits_bt _) rfl rfl rfl ?_
      intro h3 w3 XB3
      have B3 : Ar Z h3 d .byte (Fil ((utf8 (cs.take i)) ++ [b1 c]) (2 * cs.length)) := by rw [← fil_set (by omega)]; exact XB3
      have l3 : ((utf8 (cs.take i)) ++ [b1 c]).length = (utf8 (cs.take i)).length + 1 := by rw [List.length_append]; rfl
      refine Wp.run ok_en8 9 105 #[.val (.int 0), .val (.ref b), .val (.int 1), .val (.int (((Int32.ofNat (utf8 (cs.take i)).length) + (1 : Int32)) + (1 : Int32))), .val (.ref d), .val (.ref b), .val (.int (Int32.ofNat cs.length)), .val (.int (Int32.ofNat i)), .val (.int (lo8 c))] [(.int (lo8 ((128 : Int32) ||| ((lo8 c) &&& (63 : Int32))))), (.int ((Int32.ofNat (utf8 (cs.take i)).length) + (1 : Int32))), (.ref d)] rfl ?_
      refine Wp.at #[.val (.int 0), .val (.ref b), .val (.int 1), .val (.int (Int32.ofNat (utf8 (cs.take i) ++ [b1 c]).length + (1 : Int32))), .val (.ref d), .val (.ref b), .val (.int (Int32.ofNat cs.length)), .val (.int (Int32.ofNat i)), .val (.int (lo8 c))] [(.int (lo8 (b2 c))), (.int (Int32.ofNat ((utf8 (cs.take i)) ++ [b1 c]).length)), (.ref d)] ⟨(by rw [enc_len] <;> rfl), (by rw [enc_len, lo8_63] <;> rfl)⟩ ?_
      refine Wp.aput ok_en8 B3 (List.mem_of_getElem? (i := 0) rfl) (i := ((utf8 (cs.take i)) ++ [b1 c]).length) rfl (by rw [fil_len (by omega)]; omega) rfl (fits_bt _) rfl rfl rfl ?_
      intro h4 w4 XB4
      have B4 : Ar Z h4 d .byte (Fil (((utf8 (cs.take i)) ++ [b1 c]) ++ [b2 c]) (2 * cs.length)) := by rw [← fil_set (by omega)]; exact XB4
      refine Wp.run ok_en8 3 49 #[.val (.int 0), .val (.ref b), .val (.int 1), .val (.int (Int32.ofNat (utf8 (cs.take i) ++ [b1 c]).length + (1 : Int32))), .val (.ref d), .val (.ref b), .val (.int (Int32.ofNat cs.length)), .val (.int ((Int32.ofNat i) + (1 : Int32))), .val (.int (lo8 c))] [] rfl ?_
      have e4 : utf8 (cs.take (i + 1)) = ((utf8 (cs.take i)) ++ [b1 c]) ++ [b2 c] := by rw [hst]; simp
      refine Wp.at #[.val (.int 0), .val (.ref b), .val (.int 1), .val (.int (Int32.ofNat (utf8 (cs.take (i + 1))).length)), .val (.ref d), .val (.ref b), .val (.int (Int32.ofNat cs.length)), .val (.int (Int32.ofNat (i + 1))), .val (.int (lo8 c))] [] ⟨(by rw [enc_len, ← e4, n_succ] <;> rfl), rfl⟩ ?_
      exact Wp.up (Nat.le_of_ble_eq_true rfl) (Nat.le_of_ble_eq_true rfl) (Nat.le_of_ble_eq_true rfl) (Nat.le_of_ble_eq_true rfl) (fun x hx => hx) (ih (i + 1) (by omega) _ (Sl1.int _) h4 ((K2.trans (wr_keep w3) (fun x hx => Or.inl hx)).trans (wr_keep w4) (fun x hx => Or.inl hx)) (by rw [e4]; exact B4))

set_option maxRecDepth 65536 in
set_option maxHeartbeats 4000000 in
theorem ct_en8 {l : Launch} {Z : State} {a0 : Array Value} (G : Gd Z a0) {b : Addr} {cs : List Int32} (hl : Lat cs) (hcap : cs.length ≤ 8) (h : Heap) (A : Ar Z h b .byte (byt cs)) :
    Ct l Z EL1 mt_en8 ({ frames := 2, cells := 2, slots := 48, locals := 56 } : Room) #[(.int 0), (.ref b), (.int 1)] h [] (fun v h' => ∃ d, v = some (.ref d) ∧ Ext h h' ∧ Ar Z h' d .byte (byt (utf8 cs))) := by
  refine Ct.of_wp pl_en8 G.2.1 (Ls := #[.val (.int 0), .val (.ref b), .val (.int 1), .unset, .unset, .unset, .unset, .unset, .unset]) rfl ?_
  have h31 : cs.length < 2 ^ 31 := by simpa using A.len
  refine Wp.run ok_en8 2 2 #[.val (.int 0), .val (.ref b), .val (.int 1), .unset, .unset, .unset, .unset, .unset, .unset] [(.int (1 : Int32)), (.int 0)] rfl ?_
  refine Wp.icmpT ok_en8 11 rfl rfl (show ¬ 0 = (1 : Int32) from by decide) (by decide) (by decide) ?_
  refine Wp.run ok_en8 3 14 #[.val (.int 0), .val (.ref b), .val (.int 1), .unset, .unset, .unset, .unset, .unset, .unset] [(.ref b), (.int (0 : Int32)), (.ref b)] rfl ?_
  refine Wp.alen ok_en8 A rfl rfl ?_
  refine Wp.at #[.val (.int 0), .val (.ref b), .val (.int 1), .unset, .unset, .unset, .unset, .unset, .unset] [(.int (Int32.ofNat cs.length)), (.int (0 : Int32)), (.ref b)] ⟨rfl, by simp only [List.length_map]⟩ ?_
  refine Wp.callS ok_en8 (argsL := [(.ref b), (.int (0 : Int32)), (.int (Int32.ofNat cs.length))]) (rest := []) (ct_hng G hl h A) G.2.1 (G.1 _ (List.mem_of_getElem? (i := 101) rfl)) (G.1 _ (List.mem_of_getElem? (i := 102) rfl)) (G.1 _ (List.mem_of_getElem? (i := 103) rfl)) (G.1 _ (List.mem_of_getElem? (i := 104) rfl)) rfl rfl (by decide) pd_hng rfl rfl (Nat.le_of_ble_eq_true rfl) (Nat.le_of_ble_eq_true rfl) (Nat.le_of_ble_eq_true rfl) (Nat.le_of_ble_eq_true rfl) all0 ?_
  rintro _ _ ⟨r, rfl, rfl, hr⟩ -
  rcases hr with ⟨rfl, hr⟩ | rfl
  · refine Wp.ifF ok_en8 rfl rfl (show 0 = (0 : Int32) from rfl) ?_
    refine Wp.run ok_en8 1 22 #[.val (.int 0), .val (.ref b), .val (.int 1), .unset, .unset, .unset, .unset, .unset, .unset] [(.ref b)] rfl ?_
    refine Wp.clone ok_en8 (cap := 8) A (G.1 _ (List.mem_of_getElem? (i := 108) rfl)) (G.1 _ (List.mem_of_getElem? (i := 109) rfl)) (G.1 _ (List.mem_of_getElem? (i := 113) rfl)) (G.1 _ (List.mem_of_getElem? (i := 111) rfl)) (G.1 _ (List.mem_of_getElem? (i := 112) rfl)) (G.1 _ (List.mem_of_getElem? (i := 114) rfl)) rfl rfl rfl (Nat.le_of_ble_eq_true rfl) (Nat.le_of_ble_eq_true rfl) (by simp; omega) (Nat.le_of_ble_eq_true rfl) (Nat.le_of_ble_eq_true rfl) ?_
    rintro h1 E1 ⟨B1, X1⟩
    refine Wp.cast ok_en8 (Ins.of_exa X1 (G.1 _ (List.mem_of_getElem? (i := 116) rfl))) (G.1 _ (List.mem_of_getElem? (i := 115) rfl)) rfl rfl ?_
    exact Wp.retA ok_en8 (t := (.array .byte)) rfl rfl rfl rfl rfl ⟨_, rfl, E1, by rw [utf8_low hr]; exact B1⟩
  · refine Wp.ifT ok_en8 29 rfl rfl (show ¬ 1 = (0 : Int32) from by decide) (by decide) (by decide) ?_
    refine Wp.run ok_en8 3 32 #[.val (.int 0), .val (.ref b), .val (.int 1), .val (.int (0 : Int32)), .unset, .unset, .unset, .unset, .unset] [(.ref b)] rfl ?_
    refine Wp.alen ok_en8 A rfl rfl ?_
    refine Wp.at #[.val (.int 0), .val (.ref b), .val (.int 1), .val (.int (0 : Int32)), .unset, .unset, .unset, .unset, .unset] [(.int (Int32.ofNat cs.length))] ⟨rfl, by simp only [List.length_map]⟩ ?_
    refine Wp.callS3 ok_en8 (argsL := [(.int (Int32.ofNat cs.length))]) (rest := []) (ct_nbf G (m := cs.length) (by omega) h) G.2.1 (G.1 _ (List.mem_of_getElem? (i := 257) rfl)) (G.1 _ (List.mem_of_getElem? (i := 144) rfl)) (G.1 _ (List.mem_of_getElem? (i := 120) rfl)) (G.1 _ (List.mem_of_getElem? (i := 145) rfl)) rfl rfl (by decide) pd_nbf rfl rfl (Nat.le_of_ble_eq_true rfl) (Nat.le_of_ble_eq_true rfl) (Nat.le_of_ble_eq_true rfl) (Nat.le_of_ble_eq_true rfl) all0 ?_
    rintro _ h1 _ ⟨d, rfl, rfl, E1, hd, B1⟩ -
    refine Wp.run ok_en8 4 43 #[.val (.int 0), .val (.ref b), .val (.int 1), .val (.int (0 : Int32)), .val (.ref d), .val (.ref b), .unset, .unset, .unset] [(.ref b)] rfl ?_
    refine Wp.alen ok_en8 (A.ext E1) rfl rfl ?_
    refine Wp.at #[.val (.int 0), .val (.ref b), .val (.int 1), .val (.int (0 : Int32)), .val (.ref d), .val (.ref b), .unset, .unset, .unset] [(.int (Int32.ofNat cs.length))] ⟨rfl, by simp only [List.length_map]⟩ ?_
    refine Wp.run ok_en8 3 49 #[.val (.int 0), .val (.ref b), .val (.int 1), .val (.int (0 : Int32)), .val (.ref d), .val (.ref b), .val (.int (Int32.ofNat cs.length)), .val (.int (0 : Int32)), .unset] [] rfl ?_
    refine Wp.at #[.val (.int 0), .val (.ref b), .val (.int 1), .val (.int (0 : Int32)), .val (.ref d), .val (.ref b), .val (.int (Int32.ofNat cs.length)), .val (.int (0 : Int32)), .unset] [] ⟨rfl, rfl⟩ ?_
    exact lp_en8 G hl hcap (utf8_len cs) A E1 hd (fun q => absurd A.lt (Nat.not_lt.mpr (q ▸ hd))) cs.length 0 (by omega) _ Sl1.unset h1 (Keep.refl _ _) (by rw [List.take_zero]; show Ar Z h1 d .byte (Fil [] _); rw [fil_nil]; exact B1)

abbrev mt_e16 : Mth := (⟨"java/lang/String", "encodeUTF8_UTF16", "([BZ)[B"⟩, jdk_42_method_47_code, 9, some (.array .byte))
def tb_e16 : Tab := [(0, .iconst 0, 1), (1, .istore_n 2, 1), (2, .iconst 0, 1), (3, .istore_n 3, 1), (4, .aload_n 0, 1), (5, .arraylength, 1), (6, .iconst 1, 1), (7, .ishr, 1), (8, .istore 4, 2), (10, .iload 4, 2), (12, .iconst 3, 1), (13, .imul, 1), (14, .newarray .byte, 2), (16, .astore 5, 2), (18, .iload_n 3, 1), (19, .iload 4, 2), (21, .if_icmp .ge 37, 3), (24, .aload_n 0, 1), (25, .iload_n 3, 1), (26, .invokestatic 360, 3), (29, .istore 6, 2), (31, .iload 6, 2), (33, .sipush 128, 3), (36, .if_icmp .lt 6, 3), (39, .goto 19, 3), (42, .aload 5, 2), (44, .iload_n 2, 1), (45, .iinc 2 1, 3), (48, .iload 6, 2), (50, .i2b, 1), (51, .bastore, 1), (52, .iinc 3 1, 3), (55, .goto (-37), 3), (58, .iload_n 3, 1), (59, .iload 4, 2), (61, .if_icmp .ge 294, 3), (64, .aload_n 0, 1), (65, .iload_n 3, 1), (66, .iinc 3 1, 3), (69, .invokestatic 360, 3), (72, .istore 6, 2), (74, .iload 6, 2), (76, .sipush 128, 3), (79, .if_icmp .ge 16, 3), (82, .aload 5, 2), (84, .iload_n 2, 1), (85, .iinc 2 1, 3), (88, .iload 6, 2), (90, .i2b, 1), (91, .bastore, 1), (92, .goto 260, 3), (95, .iload 6, 2), (97, .sipush 2048, 3), (100, .if_icmp .ge 40, 3), (103, .aload 5, 2), (105, .iload_n 2, 1), (106, .iinc 2 1, 3), (109, .sipush 192, 3), (112, .iload 6, 2), (114, .bipush 6, 2), (116, .ishr, 1), (117, .ior, 1), (118, .i2b, 1), (119, .bastore, 1), (120, .aload 5, 2), (122, .iload_n 2, 1), (123, .iinc 2 1, 3), (126, .sipush 128, 3), (129, .iload 6, 2), (131, .bipush 63, 2), (133, .iand, 1), (134, .ior, 1), (135, .i2b, 1), (136, .bastore, 1), (137, .goto 215, 3), (140, .iload 6, 2), (142, .invokestatic 404, 3), (145, .ifCond .eq 153, 3), (148, .iconst (-1), 1), (149, .istore 7, 2), (151, .iload 6, 2), (153, .invokestatic 364, 3), (156, .ifCond .eq 32, 3), (159, .iload_n 3, 1), (160, .iload 4, 2), (162, .if_icmp .ge 26, 3), (165, .aload_n 0, 1), (166, .iload_n 3, 1), (167, .invokestatic 360, 3), (170, .dup, 1), (171, .istore 8, 2), (173, .invokestatic 370, 3), (176, .ifCond .eq 12, 3), (179, .iload 6, 2), (181, .iload 8, 2), (183, .invokestatic 477, 3), (186, .istore 7, 2), (188, .iload 7, 2), (190, .ifCond .ge 28, 3), (193, .iload_n 1, 1), (194, .ifCond .eq 15, 3), (197, .aload 5, 2), (199, .iload_n 2, 1), (200, .iinc 2 1, 3), (203, .bipush 63, 2), (205, .bastore, 1), (206, .goto 89, 3), (209, .iload_n 3, 1), (210, .iconst 1, 1), (211, .isub, 1), (212, .invokestatic 377, 3), (215, .goto 80, 3), (218, .aload 5, 2), (220, .iload_n 2, 1), (221, .iinc 2 1, 3), (224, .sipush 240, 3), (227, .iload 7, 2), (229, .bipush 18, 2), (231, .ishr, 1), (232, .ior, 1), (233, .i2b, 1), (234, .bastore, 1), (235, .aload 5, 2), (237, .iload_n 2, 1), (238, .iinc 2 1, 3), (241, .sipush 128, 3), (244, .iload 7, 2), (246, .bipush 12, 2), (248, .ishr, 1), (249, .bipush 63, 2), (251, .iand, 1), (252, .ior, 1), (253, .i2b, 1), (254, .bastore, 1), (255, .aload 5, 2), (257, .iload_n 2, 1), (258, .iinc 2 1, 3), (261, .sipush 128, 3), (264, .iload 7, 2), (266, .bipush 6, 2), (268, .ishr, 1), (269, .bipush 63, 2), (271, .iand, 1), (272, .ior, 1), (273, .i2b, 1), (274, .bastore, 1), (275, .aload 5, 2), (277, .iload_n 2, 1), (278, .iinc 2 1, 3), (281, .sipush 128, 3), (284, .iload 7, 2), (286, .bipush 63, 2), (288, .iand, 1), (289, .ior, 1), (290, .i2b, 1), (291, .bastore, 1), (292, .iinc 3 1, 3), (295, .goto 57, 3), (298, .aload 5, 2), (300, .iload_n 2, 1), (301, .iinc 2 1, 3), (304, .sipush 224, 3), (307, .iload 6, 2), (309, .bipush 12, 2), (311, .ishr, 1), (312, .ior, 1), (313, .i2b, 1), (314, .bastore, 1), (315, .aload 5, 2), (317, .iload_n 2, 1), (318, .iinc 2 1, 3), (321, .sipush 128, 3), (324, .iload 6, 2), (326, .bipush 6, 2), (328, .ishr, 1), (329, .bipush 63, 2), (331, .iand, 1), (332, .ior, 1), (333, .i2b, 1), (334, .bastore, 1), (335, .aload 5, 2), (337, .iload_n 2, 1), (338, .iinc 2 1, 3), (341, .sipush 128, 3), (344, .iload 6, 2), (346, .bipush 63, 2), (348, .iand, 1), (349, .ior, 1), (350, .i2b, 1), (351, .bastore, 1), (352, .goto (-294), 3), (355, .iload_n 2, 1), (356, .aload 5, 2), (358, .arraylength, 1), (359, .if_icmp .ne 6, 3), (362, .aload 5, 2), (364, .areturn, 1), (365, .aload 5, 2), (367, .iload_n 2, 1), (368, .invokestatic 102, 3), (371, .areturn, 1)]
theorem ok_e16 : TabOk mt_e16.2.1 tb_e16 := by
  intro x hx
  have q : tb_e16.all (fun x => decide (decode jdk_42_method_47_code x.1 = .ok x.2)) = true := by decide +kernel
  exact of_decide_eq_true (List.all_eq_true.mp q x hx)
theorem pl_e16 : plainFor mt_e16.1 = true := by first | decide +kernel | exact plainFor_of_name (by first | (simp [plainName, overriddenIn]; done) | decide +kernel)
theorem pd_e16 : parseMethodDescriptor "([BZ)[B" = some ⟨[(.array .byte), .boolean], some (.array .byte)⟩ := by decide +kernel

set_option maxRecDepth 65536 in
set_option maxHeartbeats 4000000 in
theorem lp_e16 {l : Launch} {Z : State} {a0 : Array Value} (G : Gd Z a0) {b d : Addr} {cs : List Int32} {h h1 : Heap} (hw : W11 cs) (hcap : cs.length ≤ 8) (hne : 0 < cs.length) (A : Ar Z h b .byte (u16 cs)) (E1 : Ext h h1) (hd : h.size ≤ d) (hbd : b ≠ d) : ∀ (r i : Nat), i + r = cs.length → ∀ (z : Slot), Sl1 z → ∀ h2, Keep h1 h2 [d] → Ar Z h2 d .byte (Fil (utf8 (cs.take i)) (3 * cs.length)) →
    Wp l Z EL1 mt_e16 ({ frames := 2, cells := 2, slots := 40, locals := 32 } : Room) h2 [d] 1 24 58 #[.val (.ref b), .val (.int 1), .val (.int (Int32.ofNat (utf8 (cs.take i)).length)), .val (.int (Int32.ofNat i)), .val (.int (Int32.ofNat cs.length)), .val (.ref d), z, .unset, .unset] [] (fun v h' => ∃ d, v = some (.ref d) ∧ Ext h h' ∧ Ar Z h' d .byte (byt (utf8 cs))) := by
  have hul := utf8_len cs
  intro r
  induction r with
  | zero =>
    intro i hi z hz h2 K2 B2
    refine Wp.run ok_e16 2 61 #[.val (.ref b), .val (.int 1), .val (.int (Int32.ofNat (utf8 (cs.take i)).length)), .val (.int (Int32.ofNat i)), .val (.int (Int32.ofNat cs.length)), .val (.ref d), z, .unset, .unset] [(.int (Int32.ofNat cs.length)), (.int (Int32.ofNat i))] rfl ?_
    refine Wp.icmpT ok_e16 355 rfl rfl (show ¬ (Int32.ofNat i) < (Int32.ofNat cs.length) from fun q => absurd ((n_lt (by omega) (by omega)).mp q) (by omega)) (by decide) (by decide) ?_
    obtain rfl : i = cs.length := by omega
    rw [List.take_length] at B2
    refine Wp.at #[.val (.ref b), .val (.int 1), .val (.int (Int32.ofNat (utf8 cs).length)), .val (.int (Int32.ofNat cs.length)), .val (.int (Int32.ofNat cs.length)), .val (.ref d), z, .unset, .unset] [] ⟨(by rw [List.take_length] <;> rfl), rfl⟩ ?_
    refine Wp.run ok_e16 2 358 #[.val (.ref b), .val (.int 1), .val (.int (Int32.ofNat (utf8 cs).length)), .val (.int (Int32.ofNat cs.length)), .val (.int (Int32.ofNat cs.length)), .val (.ref d), z, .unset, .unset] [(.ref d), (.int (Int32.ofNat (utf8 cs).length))] rfl ?_
    refine Wp.alen ok_e16 B2 rfl rfl ?_
    refine Wp.at #[.val (.ref b), .val (.int 1), .val (.int (Int32.ofNat (utf8 cs).length)), .val (.int (Int32.ofNat cs.length)), .val (.int (Int32.ofNat cs.length)), .val (.ref d), z, .unset, .unset] [(.int (Int32.ofNat (3 * cs.length))), (.int (Int32.ofNat (utf8 cs).length))] ⟨rfl, (by rw [fil_len (by omega)] <;> rfl)⟩ ?_
    refine Wp.icmpT ok_e16 365 rfl rfl (show ¬ (Int32.ofNat (utf8 cs).length) = (Int32.ofNat (3 * cs.length)) from fun q => absurd ((n_eq (by omega) (by omega)).mp q) (by omega)) (by decide) (by decide) ?_
    refine Wp.run ok_e16 2 368 #[.val (.ref b), .val (.int 1), .val (.int (Int32.ofNat (utf8 cs).length)), .val (.int (Int32.ofNat cs.length)), .val (.int (Int32.ofNat cs.length)), .val (.ref d), z, .unset, .unset] [(.int (Int32.ofNat (utf8 cs).length)), (.ref d)] rfl ?_
    refine Wp.callS ok_e16 (argsL := [(.ref d), (.int (Int32.ofNat (utf8 cs).length))]) (rest := []) (ct_cof G (m := (utf8 cs).length) (by rw [fil_len (by omega)]; omega) (by omega) h2 B2) G.2.1 (G.1 _ (List.mem_of_getElem? (i := 189) rfl)) (G.1 _ (List.mem_of_getElem? (i := 190) rfl)) (G.1 _ (List.mem_of_getElem? (i := 191) rfl)) (G.1 _ (List.mem_of_getElem? (i := 192) rfl)) rfl rfl (by decide) pd_cof rfl rfl (Nat.le_of_ble_eq_true rfl) (Nat.le_of_ble_eq_true rfl) (Nat.le_of_ble_eq_true rfl) (Nat.le_of_ble_eq_true rfl) all0 ?_
    rintro _ h3 ⟨d2, rfl, E3, B3⟩ -
    exact Wp.retA ok_e16 (t := (.array .byte)) rfl rfl rfl rfl rfl ⟨d2, rfl, ext_trans (ext_keep E1 K2 (all1 hd)) E3, by rw [fil_take] at B3; exact B3⟩
  | succ r ih =>
    intro i hi z hz h2 K2 B2
    obtain ⟨c, hc⟩ : ∃ c, cs[i]? = some c := ⟨_, List.getElem?_eq_getElem (by omega)⟩
    refine Wp.run ok_e16 2 61 #[.val (.ref b), .val (.int 1), .val (.int (Int32.ofNat (utf8 (cs.take i)).length)), .val (.int (Int32.ofNat i)), .val (.int (Int32.ofNat cs.length)), .val (.ref d), z, .unset, .unset] [(.int (Int32.ofNat cs.length)), (.int (Int32.ofNat i))] rfl ?_
    refine Wp.icmpF ok_e16 rfl rfl (show (Int32.ofNat i) < (Int32.ofNat cs.length) from (n_lt (by omega) (by omega)).mpr (by omega)) ?_
    refine Wp.run ok_e16 3 69 #[.val (.ref b), .val (.int 1), .val (.int (Int32.ofNat (utf8 (cs.take i)).length)), .val (.int ((Int32.ofNat i) + (1 : Int32))), .val (.int (Int32.ofNat cs.length)), .val (.ref d), z, .unset, .unset] [(.int (Int32.ofNat i)), (.ref b)] rfl ?_
    refine Wp.callS ok_e16 (argsL := [(.ref b), (.int (Int32.ofNat i))]) (rest := []) (ct_gch G hc (hw.w16.at hc) h2 ((A.ext E1).keep K2 (ninS hbd nin0))) G.2.1 (G.1 _ (List.mem_of_getElem? (i := 188) rfl)) (G.1 _ (List.mem_of_getElem? (i := 157) rfl)) (G.1 _ (List.mem_of_getElem? (i := 120) rfl)) (G.1 _ (List.mem_of_getElem? (i := 158) rfl)) rfl rfl (by decide) pd_gch rfl rfl (Nat.le_of_ble_eq_true rfl) (Nat.le_of_ble_eq_true rfl) (Nat.le_of_ble_eq_true rfl) (Nat.le_of_ble_eq_true rfl) all0 ?_
    rintro _ _ ⟨rfl, rfl⟩ -
    refine Wp.istoreS ok_e16 hz rfl rfl rfl ?_
    refine Wp.run ok_e16 2 79 #[.val (.ref b), .val (.int 1), .val (.int (Int32.ofNat (utf8 (cs.take i)).length)), .val (.int ((Int32.ofNat i) + (1 : Int32))), .val (.int (Int32.ofNat cs.length)), .val (.ref d), .val (.int c), .unset, .unset] [(.int (128 : Int32)), (.int c)] rfl ?_
    have hL := hw.at hc
    have hU := utf8_len (cs.take i)
    have hti : (cs.take i).length = i := by rw [List.length_take]; omega
    have hst := utf8_step hc
    refine Wp.icmp ok_e16 95 rfl rfl (by decide) (by decide) (fun hs => ?_) (fun hs => ?_)
    · replace hs : ¬ c < (128 : Int32) := hs
      have hhi : ¬ c.toInt < 128 := fun y => hs (Int32.lt_iff_toInt_lt.mpr (by rw [show (128 : Int32).toInt = 128 from by decide]; exact y))
      rw [u8, if_neg hhi] at hst
      refine Wp.run ok_e16 2 100 #[.val (.ref b), .val (.int 1), .val (.int (Int32.ofNat (utf8 (cs.take i)).length)), .val (.int ((Int32.ofNat i) + (1 : Int32))), .val (.int (Int32.ofNat cs.length)), .val (.ref d), .val (.int c), .unset, .unset] [(.int (2048 : Int32)), (.int c)] rfl ?_
      refine Wp.icmpF ok_e16 rfl rfl (show c < (2048 : Int32) from Int32.lt_iff_toInt_lt.mpr (by rw [show (2048 : Int32).toInt = 2048 from by decide]; omega)) ?_
      refine Wp.run ok_e16 9 119 #[.val (.ref b), .val (.int 1), .val (.int ((Int32.ofNat (utf8 (cs.take i)).length) + (1 : Int32))), .val (.int ((Int32.ofNat i) + (1 : Int32))), .val (.int (Int32.ofNat cs.length)), .val (.ref d), .val (.int c), .unset, .unset] [(.int (lo8 ((192 : Int32) ||| (c >>> ((6 : Int32) &&& 31))))), (.int (Int32.ofNat (utf8 (cs.take i)).length)), (.ref d)] rfl ?_
      refine Wp.at #[.val (.ref b), .val (.int 1), .val (.int ((Int32.ofNat (utf8 (cs.take i)).length) + (1 : Int32))), .val (.int ((Int32.ofNat i) + (1 : Int32))), .val (.int (Int32.ofNat cs.length)), .val (.ref d), .val (.int c), .unset, .unset] [(.int (lo8 (b1 c))), (.int (Int32.ofNat (utf8 (cs.take i)).length)), (.ref d)] ⟨rfl, rfl⟩ ?_
      refine Wp.aput ok_e16 B2 (List.mem_of_getElem? (i := 0) rfl) (i := (utf8 (cs.take i)).length) rfl (by rw [fil_len (by omega)]; omega) rfl (fits_bt _) rfl rfl rfl ?_
      intro h3 w3 XB3
      have B3 : Ar Z h3 d .byte (Fil ((utf8 (cs.take i)) ++ [b1 c]) (3 * cs.length)) := by rw [← fil_set (by omega)]; exact XB3
      have l3 : ((utf8 (cs.take i)) ++ [b1 c]).length = (utf8 (cs.take i)).length + 1 := by rw [List.length_append]; rfl
      refine Wp.run ok_e16 9 136 #[.val (.ref b), .val (.int 1), .val (.int (((Int32.ofNat (utf8 (cs.take i)).length) + (1 : Int32)) + (1 : Int32))), .val (.int ((Int32.ofNat i) + (1 : Int32))), .val (.int (Int32.ofNat cs.length)), .val (.ref d), .val (.int c), .unset, .unset] [(.int (lo8 ((128 : Int32) ||| (c &&& (63 : Int32))))), (.int ((Int32.ofNat (utf8 (cs.take i)).length) + (1 : Int32))), (.ref d)] rfl ?_
      refine Wp.at #[.val (.ref b), .val (.int 1), .val (.int (Int32.ofNat (utf8 (cs.take i) ++ [b1 c]).length + (1 : Int32))), .val (.int ((Int32.ofNat i) + (1 : Int32))), .val (.int (Int32.ofNat cs.length)), .val (.ref d), .val (.int c), .unset, .unset] [(.int (lo8 (b2 c))), (.int (Int32.ofNat ((utf8 (cs.take i)) ++ [b1 c]).length)), (.ref d)] ⟨(by rw [enc_len (c := b1 c)] <;> rfl), (by rw [enc_len (c := b1 c)] <;> rfl)⟩ ?_
      refine Wp.aput ok_e16 B3 (List.mem_of_getElem? (i := 0) rfl) (i := ((utf8 (cs.take i)) ++ [b1 c]).length) rfl (by rw [fil_len (by omega)]; omega) rfl (fits_bt _) rfl rfl rfl ?_
      intro h4 w4 XB4
      have B4 : Ar Z h4 d .byte (Fil (((utf8 (cs.take i)) ++ [b1 c]) ++ [b2 c]) (3 * cs.length)) := by rw [← fil_set (by omega)]; exact XB4
      refine Wp.run ok_e16 2 58 #[.val (.ref b), .val (.int 1), .val (.int (Int32.ofNat (utf8 (cs.take i) ++ [b1 c]).length + (1 : Int32))), .val (.int ((Int32.ofNat i) + (1 : Int32))), .val (.int (Int32.ofNat cs.length)), .val (.ref d), .val (.int c), .unset, .unset] [] rfl ?_
      have e4 : utf8 (cs.take (i + 1)) = ((utf8 (cs.take i)) ++ [b1 c]) ++ [b2 c] := by rw [hst]; simp
      refine Wp.at #[.val (.ref b), .val (.int 1), .val (.int (Int32.ofNat (utf8 (cs.take (i + 1))).length)), .val (.int (Int32.ofNat (i + 1))), .val (.int (Int32.ofNat cs.length)), .val (.ref d), .val (.int c), .unset, .unset] [] ⟨(by rw [enc_len (c := b2 c), ← e4, n_succ] <;> rfl), rfl⟩ ?_
      exact Wp.up (Nat.le_of_ble_eq_true rfl) (Nat.le_of_ble_eq_true rfl) (Nat.le_of_ble_eq_true rfl) (Nat.le_of_ble_eq_true rfl) (fun x hx => hx) (ih (i + 1) (by omega) _ (Sl1.int _) h4 ((K2.trans (wr_keep w3) (fun x hx => Or.inl hx)).trans (wr_keep w4) (fun x hx => Or.inl hx)) (by rw [e4]; exact B4))
    · replace hs : c < (128 : Int32) := hs
      have hlow : c.toInt < 128 := by have z := Int32.lt_iff_toInt_lt.mp hs; rw [show (128 : Int32).toInt = 128 from by decide] at z; exact z
      rw [u8, if_pos hlow] at hst
      refine Wp.run ok_e16 5 91 #[.val (.ref b), .val (.int 1), .val (.int ((Int32.ofNat (utf8 (cs.take i)).length) + (1 : Int32))), .val (.int ((Int32.ofNat i) + (1 : Int32))), .val (.int (Int32.ofNat cs.length)), .val (.ref d), .val (.int c), .unset, .unset] [(.int (lo8 c)), (.int (Int32.ofNat (utf8 (cs.take i)).length)), (.ref d)] rfl ?_
      refine Wp.aput ok_e16 B2 (List.mem_of_getElem? (i := 0) rfl) (i := (utf8 (cs.take i)).length) rfl (by rw [fil_len (by omega)]; omega) rfl (fits_bt _) rfl rfl rfl ?_
      intro h3 w3 XB3
      have B3 : Ar Z h3 d .byte (Fil ((utf8 (cs.take i)) ++ [c]) (3 * cs.length)) := by rw [← fil_set (by omega)]; exact XB3
      refine Wp.run ok_e16 2 58 #[.val (.ref b), .val (.int 1), .val (.int ((Int32.ofNat (utf8 (cs.take i)).length) + (1 : Int32))), .val (.int ((Int32.ofNat i) + (1 : Int32))), .val (.int (Int32.ofNat cs.length)), .val (.ref d), .val (.int c), .unset, .unset] [] rfl ?_
      refine Wp.at #[.val (.ref b), .val (.int 1), .val (.int (Int32.ofNat (utf8 (cs.take (i + 1))).length)), .val (.int (Int32.ofNat (i + 1))), .val (.int (Int32.ofNat cs.length)), .val (.ref d), .val (.int c), .unset, .unset] [] ⟨by simp only [n_succ, hst, List.length_append, List.length_cons, List.length_nil], rfl⟩ ?_
      exact Wp.up (Nat.le_of_ble_eq_true rfl) (Nat.le_of_ble_eq_true rfl) (Nat.le_of_ble_eq_true rfl) (Nat.le_of_ble_eq_true rfl) (fun x hx => hx) (ih (i + 1) (by omega) _ (Sl1.int _) h3 (K2.trans (wr_keep w3) (fun x hx => Or.inl hx)) (by rw [hst]; exact B3))

set_option maxRecDepth 65536 in
set_option maxHeartbeats 4000000 in
theorem lp_e16a {l : Launch} {Z : State} {a0 : Array Value} (G : Gd Z a0) {b d : Addr} {cs : List Int32} {h h1 : Heap} (hw : W11 cs) (hcap : cs.length ≤ 8) (hne : 0 < cs.length) (A : Ar Z h b .byte (u16 cs)) (E1 : Ext h h1) (hd : h.size ≤ d) (hbd : b ≠ d) : ∀ (r i : Nat), i + r = cs.length → ∀ (z : Slot), Sl1 z → ∀ h2, Keep h1 h2 [d] → Ar Z h2 d .byte (Fil (utf8 (cs.take i)) (3 * cs.length)) →
    Wp l Z EL1 mt_e16 ({ frames := 2, cells := 2, slots := 40, locals := 32 } : Room) h2 [d] 1 24 18 #[.val (.ref b), .val (.int 1), .val (.int (Int32.ofNat (utf8 (cs.take i)).length)), .val (.int (Int32.ofNat i)), .val (.int (Int32.ofNat cs.length)), .val (.ref d), z, .unset, .unset] [] (fun v h' => ∃ d, v = some (.ref d) ∧ Ext h h' ∧ Ar Z h' d .byte (byt (utf8 cs))) := by
  intro r
  induction r with
  | zero =>
    intro i hi z hz h2 K2 B2
    refine Wp.run ok_e16 2 21 #[.val (.ref b), .val (.int 1), .val (.int (Int32.ofNat (utf8 (cs.take i)).length)), .val (.int (Int32.ofNat i)), .val (.int (Int32.ofNat cs.length)), .val (.ref d), z, .unset, .unset] [(.int (Int32.ofNat cs.length)), (.int (Int32.ofNat i))] rfl ?_
    refine Wp.icmpT ok_e16 58 rfl rfl (show ¬ (Int32.ofNat i) < (Int32.ofNat cs.length) from fun q => absurd ((n_lt (by omega) (by omega)).mp q) (by omega)) (by decide) (by decide) ?_
    exact Wp.up (Nat.le_of_ble_eq_true rfl) (Nat.le_of_ble_eq_true rfl) (Nat.le_of_ble_eq_true rfl) (Nat.le_of_ble_eq_true rfl) (fun x hx => hx) (lp_e16 G hw hcap hne A E1 hd hbd 0 i (by omega) z hz h2 K2 B2)
  | succ r ih =>
    intro i hi z hz h2 K2 B2
    obtain ⟨c, hc⟩ : ∃ c, cs[i]? = some c := ⟨_, List.getElem?_eq_getElem (by omega)⟩
    refine Wp.run ok_e16 2 21 #[.val (.ref b), .val (.int 1), .val (.int (Int32.ofNat (utf8 (cs.take i)).length)), .val (.int (Int32.ofNat i)), .val (.int (Int32.ofNat cs.length)), .val (.ref d), z, .unset, .unset] [(.int (Int32.ofNat cs.length)), (.int (Int32.ofNat i))] rfl ?_
    refine Wp.icmpF ok_e16 rfl rfl (show (Int32.ofNat i) < (Int32.ofNat cs.length) from (n_lt (by omega) (by omega)).mpr (by omega)) ?_
    refine Wp.run ok_e16 2 26 #[.val (.ref b), .val (.int 1), .val (.int (Int32.ofNat (utf8 (cs.take i)).length)), .val (.int (Int32.ofNat i)), .val (.int (Int32.ofNat cs.length)), .val (.ref d), z, .unset, .unset] [(.int (Int32.ofNat i)), (.ref b)] rfl ?_
    refine Wp.callS ok_e16 (argsL := [(.ref b), (.int (Int32.ofNat i))]) (rest := []) (ct_gch G hc (hw.w16.at hc) h2 ((A.ext E1).keep K2 (ninS hbd nin0))) G.2.1 (G.1 _ (List.mem_of_getElem? (i := 188) rfl)) (G.1 _ (List.mem_of_getElem? (i := 157) rfl)) (G.1 _ (List.mem_of_getElem? (i := 120) rfl)) (G.1 _ (List.mem_of_getElem? (i := 158) rfl)) rfl rfl (by decide) pd_gch rfl rfl (Nat.le_of_ble_eq_true rfl) (Nat.le_of_ble_eq_true rfl) (Nat.le_of_ble_eq_true rfl) (Nat.le_of_ble_eq_true rfl) all0 ?_
    rintro _ _ ⟨rfl, rfl⟩ -
    refine Wp.istoreS ok_e16 hz rfl rfl rfl ?_
    refine Wp.run ok_e16 2 36 #[.val (.ref b), .val (.int 1), .val (.int (Int32.ofNat (utf8 (cs.take i)).length)), .val (.int (Int32.ofNat i)), .val (.int (Int32.ofNat cs.length)), .val (.ref d), .val (.int c), .unset, .unset] [(.int (128 : Int32)), (.int c)] rfl ?_
    have hL := hw.at hc
    have hU := utf8_len (cs.take i)
    have hti : (cs.take i).length = i := by rw [List.length_take]; omega
    have hst := utf8_step hc
    refine Wp.icmp ok_e16 42 rfl rfl (by decide) (by decide) (fun hs => ?_) (fun hs => ?_)
    · replace hs : c < (128 : Int32) := hs
      have hlow : c.toInt < 128 := by have z := Int32.lt_iff_toInt_lt.mp hs; rw [show (128 : Int32).toInt = 128 from by decide] at z; exact z
      rw [u8, if_pos hlow] at hst
      refine Wp.run ok_e16 5 51 #[.val (.ref b), .val (.int 1), .val (.int ((Int32.ofNat (utf8 (cs.take i)).length) + (1 : Int32))), .val (.int (Int32.ofNat i)), .val (.int (Int32.ofNat cs.length)), .val (.ref d), .val (.int c), .unset, .unset] [(.int (lo8 c)), (.int (Int32.ofNat (utf8 (cs.take i)).length)), (.ref d)] rfl ?_
      refine Wp.aput ok_e16 B2 (List.mem_of_getElem? (i := 0) rfl) (i := (utf8 (cs.take i)).length) rfl (by rw [fil_len (by omega)]; omega) rfl (fits_bt _) rfl rfl rfl ?_
      intro h3 w3 XB3
      have B3 : Ar Z h3 d .byte (Fil ((utf8 (cs.take i)) ++ [c]) (3 * cs.length)) := by rw [← fil_set (by omega)]; exact XB3
      refine Wp.run ok_e16 2 18 #[.val (.ref b), .val (.int 1), .val (.int ((Int32.ofNat (utf8 (cs.take i)).length) + (1 : Int32))), .val (.int ((Int32.ofNat i) + (1 : Int32))), .val (.int (Int32.ofNat cs.length)), .val (.ref d), .val (.int c), .unset, .unset] [] rfl ?_
      refine Wp.at #[.val (.ref b), .val (.int 1), .val (.int (Int32.ofNat (utf8 (cs.take (i + 1))).length)), .val (.int (Int32.ofNat (i + 1))), .val (.int (Int32.ofNat cs.length)), .val (.ref d), .val (.int c), .unset, .unset] [] ⟨by simp only [n_succ, hst, List.length_append, List.length_cons, List.length_nil], rfl⟩ ?_
      exact Wp.up (Nat.le_of_ble_eq_true rfl) (Nat.le_of_ble_eq_true rfl) (Nat.le_of_ble_eq_true rfl) (Nat.le_of_ble_eq_true rfl) (fun x hx => hx) (ih (i + 1) (by omega) _ (Sl1.int _) h3 (K2.trans (wr_keep w3) (fun x hx => Or.inl hx)) (by rw [hst]; exact B3))
    · replace hs : ¬ c < (128 : Int32) := hs
      refine Wp.run ok_e16 1 58 #[.val (.ref b), .val (.int 1), .val (.int (Int32.ofNat (utf8 (cs.take i)).length)), .val (.int (Int32.ofNat i)), .val (.int (Int32.ofNat cs.length)), .val (.ref d), .val (.int c), .unset, .unset] [] rfl ?_
      exact Wp.up (Nat.le_of_ble_eq_true rfl) (Nat.le_of_ble_eq_true rfl) (Nat.le_of_ble_eq_true rfl) (Nat.le_of_ble_eq_true rfl) (fun x hx => hx) (lp_e16 G hw hcap hne A E1 hd hbd (r + 1) i (by omega) _ (Sl1.int _) h2 K2 B2)

set_option maxRecDepth 65536 in
set_option maxHeartbeats 4000000 in
theorem ct_e16 {l : Launch} {Z : State} {a0 : Array Value} (G : Gd Z a0) {b : Addr} {cs : List Int32} (hw : W11 cs) (hcap : cs.length ≤ 8) (hne : 0 < cs.length) (h : Heap) (A : Ar Z h b .byte (u16 cs)) :
    Ct l Z EL1 mt_e16 ({ frames := 2, cells := 2, slots := 40, locals := 32 } : Room) #[(.ref b), (.int 1)] h [] (fun v h' => ∃ d, v = some (.ref d) ∧ Ext h h' ∧ Ar Z h' d .byte (byt (utf8 cs))) := by
  refine Ct.of_wp pl_e16 G.2.1 (Ls := #[.val (.ref b), .val (.int 1), .unset, .unset, .unset, .unset, .unset, .unset, .unset]) rfl ?_
  have z31 := A.len
  refine Wp.run ok_e16 5 5 #[.val (.ref b), .val (.int 1), .val (.int (0 : Int32)), .val (.int (0 : Int32)), .unset, .unset, .unset, .unset, .unset] [(.ref b)] rfl ?_
  refine Wp.alen ok_e16 A rfl rfl ?_
  refine Wp.run ok_e16 2 8 #[.val (.ref b), .val (.int 1), .val (.int (0 : Int32)), .val (.int (0 : Int32)), .unset, .unset, .unset, .unset, .unset] [(.int ((Int32.ofNat ((u16 cs).length)) >>> ((1 : Int32) &&& 31)))] rfl ?_
  refine Wp.at #[.val (.ref b), .val (.int 1), .val (.int (0 : Int32)), .val (.int (0 : Int32)), .unset, .unset, .unset, .unset, .unset] [(.int (Int32.ofNat cs.length))] ⟨rfl, (by rw [n_shr1 z31, u16_len, Nat.mul_div_cancel_left _ (by decide : 0 < 2)] <;> rfl)⟩ ?_
  refine Wp.run ok_e16 4 14 #[.val (.ref b), .val (.int 1), .val (.int (0 : Int32)), .val (.int (0 : Int32)), .val (.int (Int32.ofNat cs.length)), .unset, .unset, .unset, .unset] [(.int ((Int32.ofNat cs.length) * (3 : Int32)))] rfl ?_
  have e3 : Int32.ofNat cs.length * (3 : Int32) = Int32.ofNat (3 * cs.length) := by rw [show (3 : Int32) = Int32.ofNat 3 from rfl, n_mul, Nat.mul_comm]
  refine Wp.newP ok_e16 (len := (3 * cs.length)) (cap := 24) (G.1 _ (List.mem_of_getElem? (i := 23) rfl)) rfl rfl e3 (by omega) (Nat.le_of_ble_eq_true rfl) (Nat.le_of_ble_eq_true rfl) (Nat.le_of_ble_eq_true rfl) ?_
  intro h1 E1 B1
  refine Wp.run ok_e16 1 18 #[.val (.ref b), .val (.int 1), .val (.int (0 : Int32)), .val (.int (0 : Int32)), .val (.int (Int32.ofNat cs.length)), .val (.ref h.size), .unset, .unset, .unset] [] rfl ?_
  refine Wp.at #[.val (.ref b), .val (.int 1), .val (.int (Int32.ofNat (utf8 (cs.take 0)).length)), .val (.int (Int32.ofNat 0)), .val (.int (Int32.ofNat cs.length)), .val (.ref h.size), .unset, .unset, .unset] [] ⟨rfl, rfl⟩ ?_
  exact lp_e16a G hw hcap hne A E1 (Nat.le_refl _) (Nat.ne_of_lt A.lt) cs.length 0 (by omega) _ Sl1.unset h1 (Keep.refl _ _) (by rw [List.take_zero]; show Ar Z h1 _ .byte (Fil [] _); rw [fil_nil]; exact B1)

set_option maxRecDepth 65536 in
set_option maxHeartbeats 4000000 in
theorem ct_en8u {l : Launch} {Z : State} {a0 : Array Value} (G : Gd Z a0) {b : Addr} {cs : List Int32} (hw : W11 cs) (hcap : cs.length ≤ 8) (hne : 0 < cs.length) (h : Heap) (A : Ar Z h b .byte (u16 cs)) :
    Ct l Z EL1 mt_en8 ({ frames := 3, cells := 2, slots := 40, locals := 52 } : Room) #[(.int 1), (.ref b), (.int 1)] h [] (fun v h' => ∃ d, v = some (.ref d) ∧ Ext h h' ∧ Ar Z h' d .byte (byt (utf8 cs))) := by
  refine Ct.of_wp pl_en8 G.2.1 (Ls := #[.val (.int 1), .val (.ref b), .val (.int 1), .unset, .unset, .unset, .unset, .unset, .unset]) rfl ?_
  refine Wp.run ok_en8 2 2 #[.val (.int 1), .val (.ref b), .val (.int 1), .unset, .unset, .unset, .unset, .unset, .unset] [(.int (1 : Int32)), (.int 1)] rfl ?_
  refine Wp.icmpF ok_en8 rfl rfl (show 1 = (1 : Int32) from rfl) ?_
  refine Wp.run ok_en8 2 7 #[.val (.int 1), .val (.ref b), .val (.int 1), .unset, .unset, .unset, .unset, .unset, .unset] [(.int 1), (.ref b)] rfl ?_
  refine Wp.callS ok_en8 (argsL := [(.ref b), (.int 1)]) (rest := []) (ct_e16 G hw hcap hne h A) G.2.1 (G.1 _ (List.mem_of_getElem? (i := 185) rfl)) (G.1 _ (List.mem_of_getElem? (i := 186) rfl)) (G.1 _ (List.mem_of_getElem? (i := 11) rfl)) (G.1 _ (List.mem_of_getElem? (i := 187) rfl)) rfl rfl (by decide) pd_e16 rfl rfl (Nat.le_of_ble_eq_true rfl) (Nat.le_of_ble_eq_true rfl) (Nat.le_of_ble_eq_true rfl) (Nat.le_of_ble_eq_true rfl) all0 ?_
  rintro _ h1 ⟨d, rfl, E1, B1⟩ -
  exact Wp.retA ok_en8 (t := (.array .byte)) rfl rfl rfl rfl rfl ⟨d, rfl, E1, B1⟩

abbrev mt_enc : Mth := (⟨"java/lang/String", "encode", "(Ljava/nio/charset/Charset;B[B)[B"⟩, jdk_42_method_18_code, 3, some (.array .byte))
def tb_enc : Tab := [(0, .aload_n 0, 1), (1, .getstatic 86, 3), (4, .if_acmp .ne 10, 3), (7, .iload_n 1, 1), (8, .aload_n 2, 1), (9, .iconst 1, 1), (10, .invokestatic 252, 3), (13, .areturn, 1), (14, .aload_n 0, 1), (15, .getstatic 116, 3), (18, .if_acmp .ne 9, 3), (21, .iload_n 1, 1), (22, .aload_n 2, 1), (23, .invokestatic 256, 3), (26, .areturn, 1), (27, .aload_n 0, 1), (28, .getstatic 123, 3), (31, .if_acmp .ne 9, 3), (34, .iload_n 1, 1), (35, .aload_n 2, 1), (36, .invokestatic 260, 3), (39, .areturn, 1), (40, .aload_n 0, 1), (41, .iload_n 1, 1), (42, .aload_n 2, 1), (43, .iconst 1, 1), (44, .invokestatic 263, 3), (47, .areturn, 1)]
theorem ok_enc : TabOk mt_enc.2.1 tb_enc := by
  intro x hx
  have q : tb_enc.all (fun x => decide (decode jdk_42_method_18_code x.1 = .ok x.2)) = true := by decide +kernel
  exact of_decide_eq_true (List.all_eq_true.mp q x hx)
theorem pl_enc : plainFor mt_enc.1 = true := by first | decide +kernel | exact plainFor_of_name (by first | (simp [plainName, overriddenIn]; done) | decide +kernel)
theorem pd_enc : parseMethodDescriptor "(Ljava/nio/charset/Charset;B[B)[B" = some ⟨[(.object "java/nio/charset/Charset"), .byte, (.array .byte)], some (.array .byte)⟩ := by decide +kernel

set_option maxRecDepth 65536 in
set_option maxHeartbeats 4000000 in
theorem ct_enc {l : Launch} {Z : State} {a0 : Array Value} (G : Gd Z a0) {ua b : Addr} {x : Int32} {cs : List Int32} (sI : Sta Z Z.heap "sun/nio/cs/UTF_8" "INSTANCE" "Lsun/nio/cs/UTF_8;" (.ref ua)) (hcap : cs.length ≤ 8) (h : Heap) (hB : (x = 0 ∧ Lat cs ∧ Ar Z h b .byte (byt cs)) ∨ (x = 1 ∧ W11 cs ∧ 0 < cs.length ∧ Ar Z h b .byte (u16 cs))) :
    Ct l Z EL1 mt_enc ({ frames := 4, cells := 2, slots := 48, locals := 76 } : Room) #[(.ref ua), (.int x), (.ref b)] h [] (fun v h' => ∃ d, v = some (.ref d) ∧ Ext h h' ∧ Ar Z h' d .byte (byt (utf8 cs))) := by
  refine Ct.of_wp pl_enc G.2.1 (Ls := #[.val (.ref ua), .val (.int x), .val (.ref b)]) rfl ?_
  rcases hB with ⟨rfl, hl, A⟩ | ⟨rfl, hw, hne, A⟩
  · refine Wp.run ok_enc 1 1 #[.val (.ref ua), .val (.int 0), .val (.ref b)] [(.ref ua)] rfl ?_
    refine Wp.getS ok_enc sI (G.1 _ (List.mem_of_getElem? (i := 96) rfl)) Via.refl rfl ?_
    refine Wp.acmpF ok_enc rfl rfl rfl rfl (XT.aa_ne_f rfl) ?_
    refine Wp.run ok_enc 3 10 #[.val (.ref ua), .val (.int 0), .val (.ref b)] [(.int (1 : Int32)), (.ref b), (.int 0)] rfl ?_
    refine Wp.callS ok_enc (argsL := [(.int 0), (.ref b), (.int (1 : Int32))]) (rest := []) (ct_en8 G hl hcap h A) G.2.1 (G.1 _ (List.mem_of_getElem? (i := 98) rfl)) (G.1 _ (List.mem_of_getElem? (i := 99) rfl)) (G.1 _ (List.mem_of_getElem? (i := 11) rfl)) (G.1 _ (List.mem_of_getElem? (i := 100) rfl)) rfl rfl (by decide) pd_en8 rfl rfl (Nat.le_of_ble_eq_true rfl) (Nat.le_of_ble_eq_true rfl) (Nat.le_of_ble_eq_true rfl) (Nat.le_of_ble_eq_true rfl) all0 ?_
    rintro _ h1 ⟨d, rfl, E1, B1⟩ -
    exact Wp.retA ok_enc (t := (.array .byte)) rfl rfl rfl rfl rfl ⟨d, rfl, E1, B1⟩
  · refine Wp.run ok_enc 1 1 #[.val (.ref ua), .val (.int 1), .val (.ref b)] [(.ref ua)] rfl ?_
    refine Wp.getS ok_enc sI (G.1 _ (List.mem_of_getElem? (i := 96) rfl)) Via.refl rfl ?_
    refine Wp.acmpF ok_enc rfl rfl rfl rfl (XT.aa_ne_f rfl) ?_
    refine Wp.run ok_enc 3 10 #[.val (.ref ua), .val (.int 1), .val (.ref b)] [(.int (1 : Int32)), (.ref b), (.int 1)] rfl ?_
    refine Wp.callS ok_enc (argsL := [(.int 1), (.ref b), (.int (1 : Int32))]) (rest := []) (ct_en8u G hw hcap hne h A) G.2.1 (G.1 _ (List.mem_of_getElem? (i := 98) rfl)) (G.1 _ (List.mem_of_getElem? (i := 99) rfl)) (G.1 _ (List.mem_of_getElem? (i := 11) rfl)) (G.1 _ (List.mem_of_getElem? (i := 100) rfl)) rfl rfl (by decide) pd_en8 rfl rfl (Nat.le_of_ble_eq_true rfl) (Nat.le_of_ble_eq_true rfl) (Nat.le_of_ble_eq_true rfl) (Nat.le_of_ble_eq_true rfl) all0 ?_
    rintro _ h1 ⟨d, rfl, E1, B1⟩ -
    exact Wp.retA ok_enc (t := (.array .byte)) rfl rfl rfl rfl rfl ⟨d, rfl, E1, B1⟩

abbrev mt_gby : Mth := (⟨"java/lang/String", "getBytes", "(Ljava/nio/charset/Charset;)[B"⟩, jdk_42_method_64_code, 2, some (.array .byte))
def tb_gby : Tab := [(0, .aload_n 1, 1), (1, .ifnonnull 11, 3), (4, .new 538, 3), (7, .dup, 1), (8, .invokespecial 540, 3), (11, .athrow, 1), (12, .aload_n 1, 1), (13, .aload_n 0, 1), (14, .invokevirtual 335, 3), (17, .aload_n 0, 1), (18, .getfield 9, 3), (21, .invokestatic 535, 3), (24, .areturn, 1)]
theorem ok_gby : TabOk mt_gby.2.1 tb_gby := by
  intro x hx
  have q : tb_gby.all (fun x => decide (decode jdk_42_method_64_code x.1 = .ok x.2)) = true := by decide +kernel
  exact of_decide_eq_true (List.all_eq_true.mp q x hx)
theorem pl_gby : plainFor mt_gby.1 = true := by first | decide +kernel | exact plainFor_of_name (by first | (simp [plainName, overriddenIn]; done) | decide +kernel)
theorem pd_gby : parseMethodDescriptor "(Ljava/nio/charset/Charset;)[B" = some ⟨[(.object "java/nio/charset/Charset")], some (.array .byte)⟩ := by decide +kernel

set_option maxRecDepth 65536 in
set_option maxHeartbeats 4000000 in
theorem ct_gby {l : Launch} {Z : State} {a0 : Array Value} (G : Gd Z a0) {a ua : Addr} {cs : List Int32} (sI : Sta Z Z.heap "sun/nio/cs/UTF_8" "INSTANCE" "Lsun/nio/cs/UTF_8;" (.ref ua)) (hw : W11 cs) (hcap : cs.length ≤ 8) (h : Heap) (S1 : StrG Z h a cs) :
    Ct l Z EL1 mt_gby ({ frames := 5, cells := 2, slots := 48, locals := 90 } : Room) #[(.ref a), (.ref ua)] h [] (fun v h' => ∃ d, v = some (.ref d) ∧ Ext h h' ∧ Ar Z h' d .byte (byt (utf8 cs))) := by
  refine Ct.of_wp pl_gby G.2.1 (Ls := #[.val (.ref a), .val (.ref ua)]) rfl ?_
  refine Wp.run ok_gby 1 1 #[.val (.ref a), .val (.ref ua)] [(.ref ua)] rfl ?_
  refine Wp.nonnullT ok_gby 12 rfl rfl (by decide) (by decide) ?_
  refine Wp.run ok_gby 2 14 #[.val (.ref a), .val (.ref ua)] [(.ref a), (.ref ua)] rfl ?_
  rcases S1 with S1 | S1
  · refine Wp.callV ok_gby (a := a) (argsL := []) (rest := [(.ref ua)]) (ct_cod G (x := 0) rfl h S1.cod) S1.exa G.2.1 (G.1 _ (List.mem_of_getElem? (i := 67) rfl)) (G.1 _ (List.mem_of_getElem? (i := 68) rfl)) (G.1 _ (List.mem_of_getElem? (i := 70) rfl)) (G.1 _ (List.mem_of_getElem? (i := 69) rfl)) (G.1 _ (List.mem_of_getElem? (i := 11) rfl)) (G.1 _ (List.mem_of_getElem? (i := 71) rfl)) rfl rfl (by decide) pd_cod rfl rfl (Nat.le_of_ble_eq_true rfl) (Nat.le_of_ble_eq_true rfl) (Nat.le_of_ble_eq_true rfl) (Nat.le_of_ble_eq_true rfl) all0 ?_
    rintro _ _ ⟨rfl, rfl⟩ -
    refine Wp.run ok_gby 1 18 #[.val (.ref a), .val (.ref ua)] [(.ref a), (.int 0), (.ref ua)] rfl ?_
    obtain ⟨b, V, A⟩ := S1.val
    refine Wp.getF ok_gby V (G.1 _ (List.mem_of_getElem? (i := 28) rfl)) Via.refl rfl rfl ?_
    refine Wp.callS ok_gby (argsL := [(.ref ua), (.int 0), (.ref b)]) (rest := []) (ct_enc G sI hcap h (Or.inl ⟨rfl, S1.lat, A⟩)) G.2.1 (G.1 _ (List.mem_of_getElem? (i := 93) rfl)) (G.1 _ (List.mem_of_getElem? (i := 94) rfl)) (G.1 _ (List.mem_of_getElem? (i := 11) rfl)) (G.1 _ (List.mem_of_getElem? (i := 95) rfl)) rfl rfl (by decide) pd_enc rfl rfl (Nat.le_of_ble_eq_true rfl) (Nat.le_of_ble_eq_true rfl) (Nat.le_of_ble_eq_true rfl) (Nat.le_of_ble_eq_true rfl) all0 ?_
    rintro _ h1 ⟨d, rfl, E1, B1⟩ -
    exact Wp.retA ok_gby (t := (.array .byte)) rfl rfl rfl rfl rfl ⟨d, rfl, E1, B1⟩
  · refine Wp.callV ok_gby (a := a) (argsL := []) (rest := [(.ref ua)]) (ct_cod G (x := 1) rfl h S1.cod) S1.exa G.2.1 (G.1 _ (List.mem_of_getElem? (i := 67) rfl)) (G.1 _ (List.mem_of_getElem? (i := 68) rfl)) (G.1 _ (List.mem_of_getElem? (i := 70) rfl)) (G.1 _ (List.mem_of_getElem? (i := 69) rfl)) (G.1 _ (List.mem_of_getElem? (i := 11) rfl)) (G.1 _ (List.mem_of_getElem? (i := 71) rfl)) rfl rfl (by decide) pd_cod rfl rfl (Nat.le_of_ble_eq_true rfl) (Nat.le_of_ble_eq_true rfl) (Nat.le_of_ble_eq_true rfl) (Nat.le_of_ble_eq_true rfl) all0 ?_
    rintro _ _ ⟨rfl, rfl⟩ -
    refine Wp.run ok_gby 1 18 #[.val (.ref a), .val (.ref ua)] [(.ref a), (.int 1), (.ref ua)] rfl ?_
    obtain ⟨b, V, A⟩ := S1.val
    refine Wp.getF ok_gby V (G.1 _ (List.mem_of_getElem? (i := 28) rfl)) Via.refl rfl rfl ?_
    refine Wp.callS ok_gby (argsL := [(.ref ua), (.int 1), (.ref b)]) (rest := []) (ct_enc G sI hcap h (Or.inr ⟨rfl, hw, S1.pos, A⟩)) G.2.1 (G.1 _ (List.mem_of_getElem? (i := 93) rfl)) (G.1 _ (List.mem_of_getElem? (i := 94) rfl)) (G.1 _ (List.mem_of_getElem? (i := 11) rfl)) (G.1 _ (List.mem_of_getElem? (i := 95) rfl)) rfl rfl (by decide) pd_enc rfl rfl (Nat.le_of_ble_eq_true rfl) (Nat.le_of_ble_eq_true rfl) (Nat.le_of_ble_eq_true rfl) (Nat.le_of_ble_eq_true rfl) all0 ?_
    rintro _ h1 ⟨d, rfl, E1, B1⟩ -
    exact Wp.retA ok_gby (t := (.array .byte)) rfl rfl rfl rfl rfl ⟨d, rfl, E1, B1⟩
end Jvm.Pilot.@@N@@
namespace Jvm.Pilot.@@N@@
open Jvm Jvm.ClassFile Sem Op Lib Jvm.Free Jvm.Stand Jvm.LawKit Jvm.RoadKit Bundle Jvm.Pilot.@@N@@.Jvm.D Jvm.Pilot.@@N@@.Kw
def hp (ks : List Int32) : List Int32 := match tg ks with | none => ks | some (o, c) => (ks.drop (o + 1)).take (c - (o + 1))
theorem hp_mem {ks : List Int32} {x : Int32} (h : x ∈ hp ks) : x ∈ ks := by
  unfold hp at h
  split at h
  · exact h
  · exact List.mem_of_mem_drop (List.mem_of_mem_take h)
theorem hp_len (ks : List Int32) : (hp ks).length ≤ ks.length := by
  unfold hp
  split
  · exact Nat.le_refl _
  · rw [List.length_take, List.length_drop]; omega
theorem n_mod {a b : Nat} (ha : a < 2 ^ 31) (hb : b < 2 ^ 31) (hb0 : 0 < b) : Int32.ofNat a % Int32.ofNat b = Int32.ofNat (a % b) := by
  have e := (c_irem (Int32.ofNat a) (Int32.ofNat b) b (n_int hb)).1 (by rw [n_int ha]; omega)
  apply Int32.toInt_inj.mp
  rw [e, n_int ha, n_int (Nat.lt_trans (Nat.mod_lt _ hb0) hb)]; exact (Int.natCast_emod a b).symm
theorem of_xor {x : Nat} {b : Int32} (q : 0 ≤ b.toInt ∧ b.toInt ≤ 255) : Int32.ofNat x ^^^ ((lo8 b &&& (255 : Int32)) <<< ((8 : Int32) &&& 31)) = Int32.ofNat (x ^^^ (256 * b.toInt.toNat)) := by
  have e : b <<< ((8 : Int32) &&& 31) = Int32.ofNat (256 * b.toInt.toNat) := by
    have h := n_shl b.toInt.toNat 8 (q := 8) (by decide)
    rw [← (n_of q.1).1] at h; exact h
  rw [lo8_and q, e, n_xor]
theorem bit_and (y : Nat) : Int32.ofNat y &&& (32768 : Int32) = Int32.ofNat (y &&& 32768) := n_and y 32768
theorem and_lt (y m : Nat) : y &&& m ≤ m := Nat.and_le_right
theorem shl1 (y : Nat) : Int32.ofNat y <<< ((1 : Int32) &&& 31) = Int32.ofNat (2 * y) := n_shl y 1 (q := 1) (by decide)

abbrev mt_tag : Mth := (⟨"holdfast/HashSlot", "tag", "(Ljava/lang/String;)Ljava/lang/String;"⟩, prog_2_method_8_code, 3, some (.object "java/lang/String"))
def tb_tag : Tab := [(0, .aload_n 0, 1), (1, .bipush 123, 2), (3, .invokevirtual 35, 3), (6, .istore_n 1, 1), (7, .iload_n 1, 1), (8, .ifCond .ge 7, 3), (11, .iconst (-1), 1), (12, .goto 12, 3), (15, .aload_n 0, 1), (16, .bipush 125, 2), (18, .iload_n 1, 1), (19, .iconst 1, 1), (20, .iadd, 1), (21, .invokevirtual 63, 3), (24, .istore_n 2, 1), (25, .iload_n 2, 1), (26, .iload_n 1, 1), (27, .iconst 1, 1), (28, .iadd, 1), (29, .if_icmp .le 14, 3), (32, .aload_n 0, 1), (33, .iload_n 1, 1), (34, .iconst 1, 1), (35, .iadd, 1), (36, .iload_n 2, 1), (37, .invokevirtual 66, 3), (40, .goto 4, 3), (43, .aconst_null, 1), (44, .areturn, 1)]
theorem ok_tag : TabOk mt_tag.2.1 tb_tag := by
  intro x hx
  have q : tb_tag.all (fun x => decide (decode prog_2_method_8_code x.1 = .ok x.2)) = true := by decide +kernel
  exact of_decide_eq_true (List.all_eq_true.mp q x hx)
theorem pl_tag : plainFor mt_tag.1 = true := by first | decide +kernel | exact plainFor_of_name (by first | (simp [plainName, overriddenIn]; done) | decide +kernel)
theorem pd_tag : parseMethodDescriptor "(Ljava/lang/String;)Ljava/lang/String;" = some ⟨[(.object "java/lang/String")], some (.object "java/lang/String")⟩ := by decide +kernel

set_option maxRecDepth 65536 in
set_option maxHeartbeats 4000000 in
theorem ct_tagN {l : Launch} {Z : State} {a0 : Array Value} (G : Gd Z a0) {a : Addr} {ks : List Int32} (hT : tg ks = none) (h : Heap) (S1 : StrG Z h a ks) :
    Ct l Z EL1 mt_tag ({ frames := 7, cells := 0, slots := 0, locals := 100 } : Room) #[(.ref a)] h [] (fun v h' => v = some .null ∧ h = h') := by
  refine Ct.of_wp pl_tag G.2.1 (Ls := #[.val (.ref a), .unset, .unset]) rfl ?_
  have h31 := S1.len
  refine Wp.run ok_tag 2 3 #[.val (.ref a), .unset, .unset] [(.int (123 : Int32)), (.ref a)] rfl ?_
  refine Wp.callV ok_tag (a := a) (argsL := [(.int (123 : Int32))]) (rest := []) (ct_ix1 G (show 0 ≤ (123 : Int32).toInt ∧ (123 : Int32).toInt ≤ 255 by decide) h S1) S1.exa G.2.1 (G.1 _ (List.mem_of_getElem? (i := 46) rfl)) (G.1 _ (List.mem_of_getElem? (i := 47) rfl)) (G.1 _ (List.mem_of_getElem? (i := 49) rfl)) (G.1 _ (List.mem_of_getElem? (i := 48) rfl)) (G.1 _ (List.mem_of_getElem? (i := 11) rfl)) (G.1 _ (List.mem_of_getElem? (i := 50) rfl)) rfl rfl (by decide) pd_ix1 rfl rfl (Nat.le_of_ble_eq_true rfl) (Nat.le_of_ble_eq_true rfl) (Nat.le_of_ble_eq_true rfl) (Nat.le_of_ble_eq_true rfl) all0 ?_
  rintro _ _ ⟨rfl, rfl⟩ -
  rcases tg_none hT with h0 | ⟨o, h0, ho, hr⟩
  · refine Wp.at #[.val (.ref a), .unset, .unset] [(.int (-1))] ⟨rfl, (by rw [ixF_none h0] <;> rfl)⟩ ?_
    refine Wp.run ok_tag 2 8 #[.val (.ref a), .val (.int (-1)), .unset] [(.int (-1))] rfl ?_
    refine Wp.ifF ok_tag rfl rfl (show (-1) < (0 : Int32) from by decide) ?_
    refine Wp.run ok_tag 7 29 #[.val (.ref a), .val (.int (-1)), .val (.int (-1 : Int32))] [(.int ((-1) + (1 : Int32))), (.int (-1 : Int32))] rfl ?_
    refine Wp.icmpT ok_tag 43 rfl rfl (show ¬ ((-1) + (1 : Int32)) < (-1 : Int32) from by decide) (by decide) (by decide) ?_
    refine Wp.run ok_tag 1 44 #[.val (.ref a), .val (.int (-1)), .val (.int (-1 : Int32))] [.null] rfl ?_
    exact Wp.retA ok_tag (t := (.object "java/lang/String")) rfl rfl rfl rfl rfl ⟨rfl, rfl⟩
  · refine Wp.at #[.val (.ref a), .unset, .unset] [(.int (Int32.ofNat o))] ⟨rfl, (by rw [ixF_some h0] <;> rfl)⟩ ?_
    refine Wp.run ok_tag 2 8 #[.val (.ref a), .val (.int (Int32.ofNat o)), .unset] [(.int (Int32.ofNat o))] rfl ?_
    refine Wp.ifT ok_tag 15 rfl rfl (show ¬ (Int32.ofNat o) < (0 : Int32) from Int32.ofNat_not_neg (by omega)) (by decide) (by decide) ?_
    refine Wp.run ok_tag 5 21 #[.val (.ref a), .val (.int (Int32.ofNat o)), .unset] [(.int ((Int32.ofNat o) + (1 : Int32))), (.int (125 : Int32)), (.ref a)] rfl ?_
    refine Wp.at #[.val (.ref a), .val (.int (Int32.ofNat o)), .unset] [(.int (Int32.ofNat (o + 1))), (.int (125 : Int32)), (.ref a)] ⟨rfl, (by rw [n_succ] <;> rfl)⟩ ?_
    refine Wp.callV ok_tag (a := a) (argsL := [(.int (125 : Int32)), (.int (Int32.ofNat (o + 1)))]) (rest := []) (ct_ix2 G (i0 := o + 1) (show 0 ≤ (125 : Int32).toInt ∧ (125 : Int32).toInt ≤ 255 by decide) (by omega) h S1) S1.exa G.2.1 (G.1 _ (List.mem_of_getElem? (i := 138) rfl)) (G.1 _ (List.mem_of_getElem? (i := 52) rfl)) (G.1 _ (List.mem_of_getElem? (i := 54) rfl)) (G.1 _ (List.mem_of_getElem? (i := 53) rfl)) (G.1 _ (List.mem_of_getElem? (i := 11) rfl)) (G.1 _ (List.mem_of_getElem? (i := 55) rfl)) rfl rfl (by decide) pd_ix2 rfl rfl (Nat.le_of_ble_eq_true rfl) (Nat.le_of_ble_eq_true rfl) (Nat.le_of_ble_eq_true rfl) (Nat.le_of_ble_eq_true rfl) all0 ?_
    rintro _ _ ⟨rfl, rfl⟩ -
    rcases hr with hr | hr
    · refine Wp.at #[.val (.ref a), .val (.int (Int32.ofNat o)), .unset] [(.int (-1))] ⟨rfl, (by rw [ixF_none hr] <;> rfl)⟩ ?_
      refine Wp.run ok_tag 5 29 #[.val (.ref a), .val (.int (Int32.ofNat o)), .val (.int (-1))] [(.int ((Int32.ofNat o) + (1 : Int32))), (.int (-1))] rfl ?_
      refine Wp.at #[.val (.ref a), .val (.int (Int32.ofNat o)), .val (.int (-1))] [(.int (Int32.ofNat (o + 1))), (.int (-1))] ⟨rfl, (by rw [n_succ] <;> rfl)⟩ ?_
      refine Wp.icmpT ok_tag 43 rfl rfl (show ¬ (Int32.ofNat (o + 1)) < (-1) from fun z => absurd z (by rw [Int32.lt_iff_toInt_lt, n_int (by omega), show (-1 : Int32).toInt = -1 from by decide]; omega)) (by decide) (by decide) ?_
      refine Wp.run ok_tag 1 44 #[.val (.ref a), .val (.int (Int32.ofNat o)), .val (.int (-1))] [.null] rfl ?_
      exact Wp.retA ok_tag (t := (.object "java/lang/String")) rfl rfl rfl rfl rfl ⟨rfl, rfl⟩
    · refine Wp.at #[.val (.ref a), .val (.int (Int32.ofNat o)), .unset] [(.int (Int32.ofNat (o + 1)))] ⟨rfl, (by rw [ixF_some hr] <;> rfl)⟩ ?_
      refine Wp.run ok_tag 5 29 #[.val (.ref a), .val (.int (Int32.ofNat o)), .val (.int (Int32.ofNat (o + 1)))] [(.int ((Int32.ofNat o) + (1 : Int32))), (.int (Int32.ofNat (o + 1)))] rfl ?_
      refine Wp.at #[.val (.ref a), .val (.int (Int32.ofNat o)), .val (.int (Int32.ofNat (o + 1)))] [(.int (Int32.ofNat (o + 1))), (.int (Int32.ofNat (o + 1)))] ⟨rfl, (by rw [n_succ] <;> rfl)⟩ ?_
      refine Wp.icmpT ok_tag 43 rfl rfl (show ¬ (Int32.ofNat (o + 1)) < (Int32.ofNat (o + 1)) from Int32.lt_irrefl) (by decide) (by decide) ?_
      refine Wp.run ok_tag 1 44 #[.val (.ref a), .val (.int (Int32.ofNat o)), .val (.int (Int32.ofNat (o + 1)))] [.null] rfl ?_
      exact Wp.retA ok_tag (t := (.object "java/lang/String")) rfl rfl rfl rfl rfl ⟨rfl, rfl⟩

set_option maxRecDepth 65536 in
set_option maxHeartbeats 4000000 in
theorem ct_tagS {l : Launch} {Z : State} {a0 : Array Value} (G : Gd Z a0) {a : Addr} {ks : List Int32} {o c : Nat} (hT : tg ks = some (o, c)) (hcap : ks.length ≤ 8) (h : Heap) (S1 : StrG Z h a ks) :
    Ct l Z EL1 mt_tag ({ frames := 7, cells := 3, slots := 36, locals := 125 } : Room) #[(.ref a)] h [] (fun v h' => ∃ d, v = some (.ref d) ∧ Ext h h' ∧ StrG Z h' d ((ks.drop (o + 1)).take (c - (o + 1)))) := by
  refine Ct.of_wp pl_tag G.2.1 (Ls := #[.val (.ref a), .unset, .unset]) rfl ?_
  have h31 := S1.len
  obtain ⟨h0, h1, hoc, hcl, hol, -⟩ := tg_inv hT
  refine Wp.run ok_tag 2 3 #[.val (.ref a), .unset, .unset] [(.int (123 : Int32)), (.ref a)] rfl ?_
  refine Wp.callV ok_tag (a := a) (argsL := [(.int (123 : Int32))]) (rest := []) (ct_ix1 G (show 0 ≤ (123 : Int32).toInt ∧ (123 : Int32).toInt ≤ 255 by decide) h S1) S1.exa G.2.1 (G.1 _ (List.mem_of_getElem? (i := 46) rfl)) (G.1 _ (List.mem_of_getElem? (i := 47) rfl)) (G.1 _ (List.mem_of_getElem? (i := 49) rfl)) (G.1 _ (List.mem_of_getElem? (i := 48) rfl)) (G.1 _ (List.mem_of_getElem? (i := 11) rfl)) (G.1 _ (List.mem_of_getElem? (i := 50) rfl)) rfl rfl (by decide) pd_ix1 rfl rfl (Nat.le_of_ble_eq_true rfl) (Nat.le_of_ble_eq_true rfl) (Nat.le_of_ble_eq_true rfl) (Nat.le_of_ble_eq_true rfl) all0 ?_
  rintro _ _ ⟨rfl, rfl⟩ -
  refine Wp.at #[.val (.ref a), .unset, .unset] [(.int (Int32.ofNat o))] ⟨rfl, (by rw [ixF_some h0] <;> rfl)⟩ ?_
  refine Wp.run ok_tag 2 8 #[.val (.ref a), .val (.int (Int32.ofNat o)), .unset] [(.int (Int32.ofNat o))] rfl ?_
  refine Wp.ifT ok_tag 15 rfl rfl (show ¬ (Int32.ofNat o) < (0 : Int32) from Int32.ofNat_not_neg (by omega)) (by decide) (by decide) ?_
  refine Wp.run ok_tag 5 21 #[.val (.ref a), .val (.int (Int32.ofNat o)), .unset] [(.int ((Int32.ofNat o) + (1 : Int32))), (.int (125 : Int32)), (.ref a)] rfl ?_
  refine Wp.at #[.val (.ref a), .val (.int (Int32.ofNat o)), .unset] [(.int (Int32.ofNat (o + 1))), (.int (125 : Int32)), (.ref a)] ⟨rfl, (by rw [n_succ] <;> rfl)⟩ ?_
  refine Wp.callV ok_tag (a := a) (argsL := [(.int (125 : Int32)), (.int (Int32.ofNat (o + 1)))]) (rest := []) (ct_ix2 G (i0 := o + 1) (show 0 ≤ (125 : Int32).toInt ∧ (125 : Int32).toInt ≤ 255 by decide) (by omega) h S1) S1.exa G.2.1 (G.1 _ (List.mem_of_getElem? (i := 138) rfl)) (G.1 _ (List.mem_of_getElem? (i := 52) rfl)) (G.1 _ (List.mem_of_getElem? (i := 54) rfl)) (G.1 _ (List.mem_of_getElem? (i := 53) rfl)) (G.1 _ (List.mem_of_getElem? (i := 11) rfl)) (G.1 _ (List.mem_of_getElem? (i := 55) rfl)) rfl rfl (by decide) pd_ix2 rfl rfl (Nat.le_of_ble_eq_true rfl) (Nat.le_of_ble_eq_true rfl) (Nat.le_of_ble_eq_true rfl) (Nat.le_of_ble_eq_true rfl) all0 ?_
  rintro _ _ ⟨rfl, rfl⟩ -
  refine Wp.at #[.val (.ref a), .val (.int (Int32.ofNat o)), .unset] [(.int (Int32.ofNat c))] ⟨rfl, (by rw [ixF_some h1] <;> rfl)⟩ ?_
  refine Wp.run ok_tag 5 29 #[.val (.ref a), .val (.int (Int32.ofNat o)), .val (.int (Int32.ofNat c))] [(.int ((Int32.ofNat o) + (1 : Int32))), (.int (Int32.ofNat c))] rfl ?_
  refine Wp.at #[.val (.ref a), .val (.int (Int32.ofNat o)), .val (.int (Int32.ofNat c))] [(.int (Int32.ofNat (o + 1))), (.int (Int32.ofNat c))] ⟨rfl, (by rw [n_succ] <;> rfl)⟩ ?_
  refine Wp.icmpF ok_tag rfl rfl (show (Int32.ofNat (o + 1)) < (Int32.ofNat c) from (n_lt (by omega) (by omega)).mpr hoc) ?_
  refine Wp.run ok_tag 5 37 #[.val (.ref a), .val (.int (Int32.ofNat o)), .val (.int (Int32.ofNat c))] [(.int (Int32.ofNat c)), (.int ((Int32.ofNat o) + (1 : Int32))), (.ref a)] rfl ?_
  refine Wp.at #[.val (.ref a), .val (.int (Int32.ofNat o)), .val (.int (Int32.ofNat c))] [(.int (Int32.ofNat c)), (.int (Int32.ofNat (o + 1))), (.ref a)] ⟨rfl, (by rw [n_succ] <;> rfl)⟩ ?_
  refine Wp.callV ok_tag (a := a) (argsL := [(.int (Int32.ofNat (o + 1))), (.int (Int32.ofNat c))]) (rest := []) (ct_sub G (i := o + 1) (j := c) hoc (by omega) hcap h S1) S1.exa G.2.1 (G.1 _ (List.mem_of_getElem? (i := 214) rfl)) (G.1 _ (List.mem_of_getElem? (i := 215) rfl)) (G.1 _ (List.mem_of_getElem? (i := 217) rfl)) (G.1 _ (List.mem_of_getElem? (i := 216) rfl)) (G.1 _ (List.mem_of_getElem? (i := 11) rfl)) (G.1 _ (List.mem_of_getElem? (i := 218) rfl)) rfl rfl (by decide) pd_sub rfl rfl (Nat.le_of_ble_eq_true rfl) (Nat.le_of_ble_eq_true rfl) (Nat.le_of_ble_eq_true rfl) (Nat.le_of_ble_eq_true rfl) all0 ?_
  rintro _ h1 ⟨d, rfl, E1, T1⟩ -
  refine Wp.run ok_tag 1 44 #[.val (.ref a), .val (.int (Int32.ofNat o)), .val (.int (Int32.ofNat c))] [(.ref d)] rfl ?_
  exact Wp.retA ok_tag (t := (.object "java/lang/String")) rfl rfl rfl rfl rfl ⟨d, rfl, E1, T1⟩

abbrev mt_hpa : Mth := (⟨"holdfast/HashSlot", "hashPart", "(Ljava/lang/String;)Ljava/lang/String;"⟩, prog_2_method_7_code, 2, some (.object "java/lang/String"))
def tb_hpa : Tab := [(0, .aload_n 0, 1), (1, .invokestatic 60, 3), (4, .astore_n 1, 1), (5, .aload_n 1, 1), (6, .ifnonnull 7, 3), (9, .aload_n 0, 1), (10, .goto 4, 3), (13, .aload_n 1, 1), (14, .areturn, 1)]
theorem ok_hpa : TabOk mt_hpa.2.1 tb_hpa := by
  intro x hx
  have q : tb_hpa.all (fun x => decide (decode prog_2_method_7_code x.1 = .ok x.2)) = true := by decide +kernel
  exact of_decide_eq_true (List.all_eq_true.mp q x hx)
theorem pl_hpa : plainFor mt_hpa.1 = true := by first | decide +kernel | exact plainFor_of_name (by first | (simp [plainName, overriddenIn]; done) | decide +kernel)
theorem pd_hpa : parseMethodDescriptor "(Ljava/lang/String;)Ljava/lang/String;" = some ⟨[(.object "java/lang/String")], some (.object "java/lang/String")⟩ := by decide +kernel

set_option maxRecDepth 65536 in
set_option maxHeartbeats 4000000 in
theorem ct_hpa {l : Launch} {Z : State} {a0 : Array Value} (G : Gd Z a0) {a : Addr} {ks : List Int32} (hcap : ks.length ≤ 8) (h : Heap) (S1 : StrG Z h a ks) :
    Ct l Z EL1 mt_hpa ({ frames := 8, cells := 3, slots := 36, locals := 139 } : Room) #[(.ref a)] h [] (fun v h' => ∃ d, v = some (.ref d) ∧ Ext h h' ∧ StrG Z h' d (hp ks)) := by
  refine Ct.of_wp pl_hpa G.2.1 (Ls := #[.val (.ref a), .unset]) rfl ?_
  rcases hT : tg ks with _ | ⟨o, c⟩
  · refine Wp.run ok_hpa 1 1 #[.val (.ref a), .unset] [(.ref a)] rfl ?_
    refine Wp.callS ok_hpa (argsL := [(.ref a)]) (rest := []) (ct_tagN G hT h S1) G.2.1 (G.1 _ (List.mem_of_getElem? (i := 43) rfl)) (G.1 _ (List.mem_of_getElem? (i := 44) rfl)) (G.1 _ (List.mem_of_getElem? (i := 38) rfl)) (G.1 _ (List.mem_of_getElem? (i := 45) rfl)) rfl rfl (by decide) pd_tag rfl rfl (Nat.le_of_ble_eq_true rfl) (Nat.le_of_ble_eq_true rfl) (Nat.le_of_ble_eq_true rfl) (Nat.le_of_ble_eq_true rfl) all0 ?_
    rintro _ _ ⟨rfl, rfl⟩ -
    refine Wp.run ok_hpa 2 6 #[.val (.ref a), .val .null] [.null] rfl ?_
    refine Wp.nonnullF ok_hpa rfl rfl ?_
    refine Wp.run ok_hpa 2 14 #[.val (.ref a), .val .null] [(.ref a)] rfl ?_
    exact Wp.retA ok_hpa (t := (.object "java/lang/String")) rfl rfl rfl rfl rfl ⟨a, rfl, ext_refl h, by unfold hp; rw [hT]; exact S1⟩
  · refine Wp.run ok_hpa 1 1 #[.val (.ref a), .unset] [(.ref a)] rfl ?_
    refine Wp.callS ok_hpa (argsL := [(.ref a)]) (rest := []) (ct_tagS G hT hcap h S1) G.2.1 (G.1 _ (List.mem_of_getElem? (i := 43) rfl)) (G.1 _ (List.mem_of_getElem? (i := 44) rfl)) (G.1 _ (List.mem_of_getElem? (i := 38) rfl)) (G.1 _ (List.mem_of_getElem? (i := 45) rfl)) rfl rfl (by decide) pd_tag rfl rfl (Nat.le_of_ble_eq_true rfl) (Nat.le_of_ble_eq_true rfl) (Nat.le_of_ble_eq_true rfl) (Nat.le_of_ble_eq_true rfl) all0 ?_
    rintro _ h1 ⟨d, rfl, E1, T1⟩ -
    refine Wp.run ok_hpa 2 6 #[.val (.ref a), .val (.ref d)] [(.ref d)] rfl ?_
    refine Wp.nonnullT ok_hpa 13 rfl rfl (by decide) (by decide) ?_
    refine Wp.run ok_hpa 1 14 #[.val (.ref a), .val (.ref d)] [(.ref d)] rfl ?_
    exact Wp.retA ok_hpa (t := (.object "java/lang/String")) rfl rfl rfl rfl rfl ⟨d, rfl, E1, by unfold hp; rw [hT]; exact T1⟩

abbrev mt_hof : Mth := (⟨"holdfast/HashSlot", "of", "(Ljava/lang/String;)I"⟩, prog_2_method_2_code, 7, some .int)
def tb_hof : Tab := [(0, .iconst 0, 1), (1, .istore_n 1, 1), (2, .aload_n 0, 1), (3, .invokestatic 7, 3), (6, .getstatic 13, 3), (9, .invokevirtual 19, 3), (12, .astore_n 2, 1), (13, .aload_n 2, 1), (14, .arraylength, 1), (15, .istore_n 3, 1), (16, .iconst 0, 1), (17, .istore 4, 2), (19, .iload 4, 2), (21, .iload_n 3, 1), (22, .if_icmp .ge 64, 3), (25, .aload_n 2, 1), (26, .iload 4, 2), (28, .baload, 1), (29, .istore 5, 2), (31, .iload_n 1, 1), (32, .iload 5, 2), (34, .sipush 255, 3), (37, .iand, 1), (38, .bipush 8, 2), (40, .ishl, 1), (41, .ixor, 1), (42, .istore_n 1, 1), (43, .iconst 0, 1), (44, .istore 6, 2), (46, .iload 6, 2), (48, .bipush 8, 2), (50, .if_icmp .ge 30, 3), (53, .iload_n 1, 1), (54, .ldc 25, 2), (56, .iand, 1), (57, .ifCond .eq 13, 3), (60, .iload_n 1, 1), (61, .iconst 1, 1), (62, .ishl, 1), (63, .sipush 4129, 3), (66, .ixor, 1), (67, .goto 6, 3), (70, .iload_n 1, 1), (71, .iconst 1, 1), (72, .ishl, 1), (73, .istore_n 1, 1), (74, .iinc 6 1, 3), (77, .goto (-31), 3), (80, .iinc 4 1, 3), (83, .goto (-64), 3), (86, .iload_n 1, 1), (87, .ldc 26, 2), (89, .iand, 1), (90, .sipush 16384, 3), (93, .irem, 1), (94, .ireturn, 1)]
theorem ok_hof : TabOk mt_hof.2.1 tb_hof := by
  intro x hx
  have q : tb_hof.all (fun x => decide (decode prog_2_method_2_code x.1 = .ok x.2)) = true := by decide +kernel
  exact of_decide_eq_true (List.all_eq_true.mp q x hx)
theorem pl_hof : plainFor mt_hof.1 = true := by first | decide +kernel | exact plainFor_of_name (by first | (simp [plainName, overriddenIn]; done) | decide +kernel)
theorem pd_hof : parseMethodDescriptor "(Ljava/lang/String;)I" = some ⟨[(.object "java/lang/String")], some .int⟩ := by decide +kernel

set_option maxRecDepth 65536 in
set_option maxHeartbeats 4000000 in
theorem lp_bit {l : Launch} {Z : State} {a0 : Array Value} (G : Gd Z a0) {a d : Addr} {bs : List Int32} {i : Nat} {v5 : Int32} {h : Heap} {Q : Option Value → Heap → Prop} : ∀ (r j y : Nat), j + r = 8 → Wp l Z EL1 mt_hof ({ frames := 9, cells := 5, slots := 84, locals := 179 } : Room) h [] 5 84 80 #[.val (.ref a), .val (.int (Int32.ofNat (bitN r y))), .val (.ref d), .val (.int (Int32.ofNat bs.length)), .val (.int (Int32.ofNat i)), .val (.int v5), .val (.int (Int32.ofNat 8))] [] Q →
    Wp l Z EL1 mt_hof ({ frames := 9, cells := 5, slots := 84, locals := 179 } : Room) h [] 5 84 46 #[.val (.ref a), .val (.int (Int32.ofNat y)), .val (.ref d), .val (.int (Int32.ofNat bs.length)), .val (.int (Int32.ofNat i)), .val (.int v5), .val (.int (Int32.ofNat j))] [] Q := by
  intro r
  induction r with
  | zero =>
    intro j y hj K
    refine Wp.run ok_hof 2 50 #[.val (.ref a), .val (.int (Int32.ofNat y)), .val (.ref d), .val (.int (Int32.ofNat bs.length)), .val (.int (Int32.ofNat i)), .val (.int v5), .val (.int (Int32.ofNat j))] [(.int (8 : Int32)), (.int (Int32.ofNat j))] rfl ?_
    refine Wp.icmpT ok_hof 80 rfl rfl (show ¬ (Int32.ofNat j) < (8 : Int32) from fun q => absurd ((n_lt (i := j) (j := 8) (by omega) (by decide)).mp q) (by omega)) (by decide) (by decide) ?_
    obtain rfl : j = 8 := by omega
    exact K
  | succ r ih =>
    intro j y hj K
    refine Wp.run ok_hof 2 50 #[.val (.ref a), .val (.int (Int32.ofNat y)), .val (.ref d), .val (.int (Int32.ofNat bs.length)), .val (.int (Int32.ofNat i)), .val (.int v5), .val (.int (Int32.ofNat j))] [(.int (8 : Int32)), (.int (Int32.ofNat j))] rfl ?_
    refine Wp.icmpF ok_hof rfl rfl (show (Int32.ofNat j) < (8 : Int32) from (n_lt (i := j) (j := 8) (by omega) (by decide)).mpr (by omega)) ?_
    refine Wp.run ok_hof 1 54 #[.val (.ref a), .val (.int (Int32.ofNat y)), .val (.ref d), .val (.int (Int32.ofNat bs.length)), .val (.int (Int32.ofNat i)), .val (.int v5), .val (.int (Int32.ofNat j))] [(.int (Int32.ofNat y))] rfl ?_
    refine Wp.ldcI ok_hof (G.1 _ (List.mem_of_getElem? (i := 139) rfl)) rfl ?_
    refine Wp.run ok_hof 1 57 #[.val (.ref a), .val (.int (Int32.ofNat y)), .val (.ref d), .val (.int (Int32.ofNat bs.length)), .val (.int (Int32.ofNat i)), .val (.int v5), .val (.int (Int32.ofNat j))] [(.int ((Int32.ofNat y) &&& (32768 : Int32)))] rfl ?_
    refine Wp.at #[.val (.ref a), .val (.int (Int32.ofNat y)), .val (.ref d), .val (.int (Int32.ofNat bs.length)), .val (.int (Int32.ofNat i)), .val (.int v5), .val (.int (Int32.ofNat j))] [(.int (Int32.ofNat (y &&& 32768)))] ⟨rfl, (by rw [bit_and] <;> rfl)⟩ ?_
    have hal := and_lt y 32768
    refine Wp.if0 ok_hof 70 rfl rfl (by decide) (by decide) (fun hz => ?_) (fun hz => ?_)
    · replace hz : (Int32.ofNat (y &&& 32768)) = (0 : Int32) := hz
      have hb : bit1 y = 2 * y := if_pos ((n_eq (by omega) (by decide)).mp hz)
      refine Wp.run ok_hof 3 73 #[.val (.ref a), .val (.int (Int32.ofNat y)), .val (.ref d), .val (.int (Int32.ofNat bs.length)), .val (.int (Int32.ofNat i)), .val (.int v5), .val (.int (Int32.ofNat j))] [(.int ((Int32.ofNat y) <<< ((1 : Int32) &&& 31)))] rfl ?_
      refine Wp.at #[.val (.ref a), .val (.int (Int32.ofNat y)), .val (.ref d), .val (.int (Int32.ofNat bs.length)), .val (.int (Int32.ofNat i)), .val (.int v5), .val (.int (Int32.ofNat j))] [(.int (Int32.ofNat (bit1 y)))] ⟨rfl, (by rw [shl1, ← hb] <;> rfl)⟩ ?_
      refine Wp.run ok_hof 3 46 #[.val (.ref a), .val (.int (Int32.ofNat (bit1 y))), .val (.ref d), .val (.int (Int32.ofNat bs.length)), .val (.int (Int32.ofNat i)), .val (.int v5), .val (.int ((Int32.ofNat j) + (1 : Int32)))] [] rfl ?_
      refine Wp.at #[.val (.ref a), .val (.int (Int32.ofNat (bit1 y))), .val (.ref d), .val (.int (Int32.ofNat bs.length)), .val (.int (Int32.ofNat i)), .val (.int v5), .val (.int (Int32.ofNat (j + 1)))] [] ⟨(by rw [n_succ] <;> rfl), rfl⟩ ?_
      exact ih (j + 1) (bit1 y) (by omega) K
    · replace hz : ¬ (Int32.ofNat (y &&& 32768)) = (0 : Int32) := hz
      have hb : bit1 y = (2 * y) ^^^ 4129 := if_neg (fun e => hz (by rw [e]; rfl))
      refine Wp.run ok_hof 6 73 #[.val (.ref a), .val (.int (Int32.ofNat y)), .val (.ref d), .val (.int (Int32.ofNat bs.length)), .val (.int (Int32.ofNat i)), .val (.int v5), .val (.int (Int32.ofNat j))] [(.int (((Int32.ofNat y) <<< ((1 : Int32) &&& 31)) ^^^ (4129 : Int32)))] rfl ?_
      refine Wp.at #[.val (.ref a), .val (.int (Int32.ofNat y)), .val (.ref d), .val (.int (Int32.ofNat bs.length)), .val (.int (Int32.ofNat i)), .val (.int v5), .val (.int (Int32.ofNat j))] [(.int (Int32.ofNat (bit1 y)))] ⟨rfl, (by rw [shl1, show (4129 : Int32) = Int32.ofNat 4129 from rfl, n_xor, ← hb] <;> rfl)⟩ ?_
      refine Wp.run ok_hof 3 46 #[.val (.ref a), .val (.int (Int32.ofNat (bit1 y))), .val (.ref d), .val (.int (Int32.ofNat bs.length)), .val (.int (Int32.ofNat i)), .val (.int v5), .val (.int ((Int32.ofNat j) + (1 : Int32)))] [] rfl ?_
      refine Wp.at #[.val (.ref a), .val (.int (Int32.ofNat (bit1 y))), .val (.ref d), .val (.int (Int32.ofNat bs.length)), .val (.int (Int32.ofNat i)), .val (.int v5), .val (.int (Int32.ofNat (j + 1)))] [] ⟨(by rw [n_succ] <;> rfl), rfl⟩ ?_
      exact ih (j + 1) (bit1 y) (by omega) K

set_option maxRecDepth 65536 in
set_option maxHeartbeats 4000000 in
theorem lp_of {l : Launch} {Z : State} {a0 : Array Value} (G : Gd Z a0) {a d : Addr} {bs : List Int32} {h : Heap} (hl : Lat bs) (A : Ar Z h d .byte (byt bs)) (h31 : bs.length < 2 ^ 31) : ∀ (r i : Nat), i + r = bs.length → ∀ z5 z6 : Slot, Sl1 z5 → Sl1 z6 →
    Wp l Z EL1 mt_hof ({ frames := 9, cells := 5, slots := 84, locals := 179 } : Room) h [] 5 84 19 #[.val (.ref a), .val (.int (Int32.ofNat (crcB 0 (bs.take i)))), .val (.ref d), .val (.int (Int32.ofNat bs.length)), .val (.int (Int32.ofNat i)), z5, z6] [] (fun v _ => v = some (.int (Int32.ofNat (crcB 0 bs % 65536 % 16384)))) := by
  intro r
  induction r with
  | zero =>
    intro i hi z5 z6 h5 h6
    refine Wp.run ok_hof 2 22 #[.val (.ref a), .val (.int (Int32.ofNat (crcB 0 (bs.take i)))), .val (.ref d), .val (.int (Int32.ofNat bs.length)), .val (.int (Int32.ofNat i)), z5, z6] [(.int (Int32.ofNat bs.length)), (.int (Int32.ofNat i))] rfl ?_
    refine Wp.icmpT ok_hof 86 rfl rfl (show ¬ (Int32.ofNat i) < (Int32.ofNat bs.length) from fun q => absurd ((n_lt (by omega) (by omega)).mp q) (by omega)) (by decide) (by decide) ?_
    refine Wp.run ok_hof 1 87 #[.val (.ref a), .val (.int (Int32.ofNat (crcB 0 (bs.take i)))), .val (.ref d), .val (.int (Int32.ofNat bs.length)), .val (.int (Int32.ofNat i)), z5, z6] [(.int (Int32.ofNat (crcB 0 (bs.take i))))] rfl ?_
    refine Wp.ldcI ok_hof (G.1 _ (List.mem_of_getElem? (i := 117) rfl)) rfl ?_
    refine Wp.run ok_hof 2 93 #[.val (.ref a), .val (.int (Int32.ofNat (crcB 0 (bs.take i)))), .val (.ref d), .val (.int (Int32.ofNat bs.length)), .val (.int (Int32.ofNat i)), z5, z6] [(.int (16384 : Int32)), (.int ((Int32.ofNat (crcB 0 (bs.take i))) &&& (65535 : Int32)))] rfl ?_
    refine Wp.at #[.val (.ref a), .val (.int (Int32.ofNat (crcB 0 (bs.take i)))), .val (.ref d), .val (.int (Int32.ofNat bs.length)), .val (.int (Int32.ofNat i)), z5, z6] [(.int (16384 : Int32)), (.int (Int32.ofNat (crcB 0 (bs.take i) % 65536)))] ⟨rfl, (by rw [show (65535 : Int32) = Int32.ofNat 65535 from rfl, n_and, show ∀ x : Nat, x &&& 65535 = x % 65536 from fun x => and_mod x 16] <;> rfl)⟩ ?_
    refine Wp.irem ok_hof rfl rfl (by decide) ?_
    refine Wp.at #[.val (.ref a), .val (.int (Int32.ofNat (crcB 0 (bs.take i)))), .val (.ref d), .val (.int (Int32.ofNat bs.length)), .val (.int (Int32.ofNat i)), z5, z6] [(.int (Int32.ofNat (crcB 0 (bs.take i) % 65536 % 16384)))] ⟨rfl, (by rw [show (16384 : Int32) = Int32.ofNat 16384 from rfl, n_mod (by omega) (by decide) (by decide)] <;> rfl)⟩ ?_
    exact Wp.retI ok_hof (t := .int) rfl (by decide) rfl rfl rfl (by rw [show i = bs.length by omega, List.take_length])
  | succ r ih =>
    intro i hi z5 z6 h5 h6
    obtain ⟨c, hc⟩ : ∃ c, bs[i]? = some c := ⟨_, List.getElem?_eq_getElem (by omega)⟩
    refine Wp.run ok_hof 2 22 #[.val (.ref a), .val (.int (Int32.ofNat (crcB 0 (bs.take i)))), .val (.ref d), .val (.int (Int32.ofNat bs.length)), .val (.int (Int32.ofNat i)), z5, z6] [(.int (Int32.ofNat bs.length)), (.int (Int32.ofNat i))] rfl ?_
    refine Wp.icmpF ok_hof rfl rfl (show (Int32.ofNat i) < (Int32.ofNat bs.length) from (n_lt (by omega) (by omega)).mpr (by omega)) ?_
    refine Wp.run ok_hof 2 28 #[.val (.ref a), .val (.int (Int32.ofNat (crcB 0 (bs.take i)))), .val (.ref d), .val (.int (Int32.ofNat bs.length)), .val (.int (Int32.ofNat i)), z5, z6] [(.int (Int32.ofNat i)), (.ref d)] rfl ?_
    refine Wp.aget ok_hof A (i := i) (v := (.int (lo8 c))) rfl (by simp [hc]) rfl rfl rfl ?_
    refine Wp.istoreS ok_hof h5 rfl rfl rfl ?_
    refine Wp.run ok_hof 8 43 #[.val (.ref a), .val (.int ((Int32.ofNat (crcB 0 (bs.take i))) ^^^ (((lo8 c) &&& (255 : Int32)) <<< ((8 : Int32) &&& 31)))), .val (.ref d), .val (.int (Int32.ofNat bs.length)), .val (.int (Int32.ofNat i)), .val (.int (lo8 c)), z6] [] rfl ?_
    refine Wp.at #[.val (.ref a), .val (.int (Int32.ofNat (crcB 0 (bs.take i) ^^^ (256 * c.toInt.toNat)))), .val (.ref d), .val (.int (Int32.ofNat bs.length)), .val (.int (Int32.ofNat i)), .val (.int (lo8 c)), z6] [] ⟨(by rw [of_xor (hl.at hc)] <;> rfl), rfl⟩ ?_
    refine Wp.run ok_hof 1 44 #[.val (.ref a), .val (.int (Int32.ofNat (crcB 0 (bs.take i) ^^^ (256 * c.toInt.toNat)))), .val (.ref d), .val (.int (Int32.ofNat bs.length)), .val (.int (Int32.ofNat i)), .val (.int (lo8 c)), z6] [(.int (0 : Int32))] rfl ?_
    refine Wp.istoreS ok_hof h6 rfl rfl rfl ?_
    refine Wp.at #[.val (.ref a), .val (.int (Int32.ofNat (crcB 0 (bs.take i) ^^^ (256 * c.toInt.toNat)))), .val (.ref d), .val (.int (Int32.ofNat bs.length)), .val (.int (Int32.ofNat i)), .val (.int (lo8 c)), .val (.int (Int32.ofNat 0))] [] ⟨rfl, rfl⟩ ?_
    refine lp_bit G 8 0 _ rfl ?_
    have e8 : bitN 8 (crcB 0 (bs.take i) ^^^ (256 * c.toInt.toNat)) = crcB 0 (bs.take (i + 1)) := by rw [List.take_add_one, hc, crcB_app]; rfl
    refine Wp.run ok_hof 2 19 #[.val (.ref a), .val (.int (Int32.ofNat (bitN 8 (crcB 0 (bs.take i) ^^^ (256 * c.toInt.toNat))))), .val (.ref d), .val (.int (Int32.ofNat bs.length)), .val (.int ((Int32.ofNat i) + (1 : Int32))), .val (.int (lo8 c)), .val (.int (Int32.ofNat 8))] [] rfl ?_
    refine Wp.at #[.val (.ref a), .val (.int (Int32.ofNat (crcB 0 (bs.take (i + 1))))), .val (.ref d), .val (.int (Int32.ofNat bs.length)), .val (.int (Int32.ofNat (i + 1))), .val (.int (lo8 c)), .val (.int (Int32.ofNat 8))] [] ⟨(by rw [e8, n_succ] <;> rfl), rfl⟩ ?_
    exact ih (i + 1) (by omega) _ _ (Sl1.int _) (Sl1.int _)

set_option maxRecDepth 65536 in
set_option maxHeartbeats 4000000 in
theorem ct_hof {l : Launch} {Z : State} {a0 : Array Value} (G : Gd Z a0) {a : Addr} {ks : List Int32} (hw : W11 ks) (hcap : ks.length ≤ 8) (h : Heap) (S1 : StrG Z h a ks) :
    Ct l Z EL1 mt_hof ({ frames := 9, cells := 5, slots := 84, locals := 179 } : Room) #[(.ref a)] h [] (fun v h' => v = some (.int (Int32.ofNat (crcB 0 (utf8 (hp ks)) % 65536 % 16384)))) := by
  refine Ct.of_wp pl_hof G.2.1 (Ls := #[.val (.ref a), .unset, .unset, .unset, .unset, .unset, .unset]) rfl ?_
  obtain ⟨ua, sC, sI⟩ := G.2.2.2.2.2
  refine Wp.run ok_hof 3 3 #[.val (.ref a), .val (.int (0 : Int32)), .unset, .unset, .unset, .unset, .unset] [(.ref a)] rfl ?_
  refine Wp.callS ok_hof (argsL := [(.ref a)]) (rest := []) (ct_hpa G hcap h S1) G.2.1 (G.1 _ (List.mem_of_getElem? (i := 40) rfl)) (G.1 _ (List.mem_of_getElem? (i := 41) rfl)) (G.1 _ (List.mem_of_getElem? (i := 38) rfl)) (G.1 _ (List.mem_of_getElem? (i := 42) rfl)) rfl rfl (by decide) pd_hpa rfl rfl (Nat.le_of_ble_eq_true rfl) (Nat.le_of_ble_eq_true rfl) (Nat.le_of_ble_eq_true rfl) (Nat.le_of_ble_eq_true rfl) all0 ?_
  rintro _ h1 ⟨s1, rfl, E1, T1⟩ -
  refine Wp.getS ok_hof sC (G.1 _ (List.mem_of_getElem? (i := 86) rfl)) Via.refl rfl ?_
  refine Wp.callV ok_hof (a := s1) (argsL := [(.ref ua)]) (rest := []) (ct_gby G sI (fun x hx => hw x (hp_mem hx)) (Nat.le_trans (hp_len ks) hcap) h1 T1) T1.exa G.2.1 (G.1 _ (List.mem_of_getElem? (i := 88) rfl)) (G.1 _ (List.mem_of_getElem? (i := 89) rfl)) (G.1 _ (List.mem_of_getElem? (i := 91) rfl)) (G.1 _ (List.mem_of_getElem? (i := 90) rfl)) (G.1 _ (List.mem_of_getElem? (i := 11) rfl)) (G.1 _ (List.mem_of_getElem? (i := 92) rfl)) rfl rfl (by decide) pd_gby rfl rfl (Nat.le_of_ble_eq_true rfl) (Nat.le_of_ble_eq_true rfl) (Nat.le_of_ble_eq_true rfl) (Nat.le_of_ble_eq_true rfl) all0 ?_
  rintro _ h2 ⟨d, rfl, E2, B2⟩ -
  refine Wp.run ok_hof 2 14 #[.val (.ref a), .val (.int (0 : Int32)), .val (.ref d), .unset, .unset, .unset, .unset] [(.ref d)] rfl ?_
  refine Wp.alen ok_hof B2 rfl rfl ?_
  refine Wp.at #[.val (.ref a), .val (.int (0 : Int32)), .val (.ref d), .unset, .unset, .unset, .unset] [(.int (Int32.ofNat (utf8 (hp ks)).length))] ⟨rfl, by simp only [List.length_map]⟩ ?_
  refine Wp.run ok_hof 3 19 #[.val (.ref a), .val (.int (0 : Int32)), .val (.ref d), .val (.int (Int32.ofNat (utf8 (hp ks)).length)), .val (.int (0 : Int32)), .unset, .unset] [] rfl ?_
  refine Wp.at #[.val (.ref a), .val (.int (Int32.ofNat (crcB 0 ((utf8 (hp ks)).take 0)))), .val (.ref d), .val (.int (Int32.ofNat (utf8 (hp ks)).length)), .val (.int (Int32.ofNat 0)), .unset, .unset] [] ⟨rfl, rfl⟩ ?_
  have z31 : (utf8 (hp ks)).length < 2 ^ 31 := by simpa using B2.len
  exact Wp.up (Nat.le_of_ble_eq_true rfl) (Nat.le_of_ble_eq_true rfl) (Nat.le_of_ble_eq_true rfl) (Nat.le_of_ble_eq_true rfl) all0 (lp_of G (utf8_lat (fun x hx => hw x (hp_mem hx))) B2 z31 (utf8 (hp ks)).length 0 (by omega) _ _ Sl1.unset Sl1.unset)
end Jvm.Pilot.@@N@@
namespace Jvm.Pilot.@@N@@
open Jvm Jvm.ClassFile Sem Op Lib Jvm.Free Jvm.Stand Jvm.LawKit Jvm.RoadKit Bundle Jvm.Pilot.@@N@@.Jvm.D Jvm.Pilot.@@N@@.Kw
abbrev mt_drw : Mth := (⟨"holdfast/HashSlotOfPinLaw", "draw", "(I)C"⟩, method_3_code, 2, some .char)
def tb_drw : Tab := [(0, .iload_n 0, 1), (1, .bipush 16, 2), (3, .iushr, 1), (4, .iconst 3, 1), (5, .iand, 1), (6, .istore_n 1, 1), (7, .iload_n 1, 1), (8, .ifCond .ne 6, 3), (11, .bipush 123, 2), (13, .ireturn, 1), (14, .iload_n 1, 1), (15, .iconst 1, 1), (16, .if_icmp .ne 6, 3), (19, .bipush 125, 2), (21, .ireturn, 1), (22, .iload_n 0, 1), (23, .sipush 2047, 3), (26, .iand, 1), (27, .i2c, 1), (28, .ireturn, 1)]
theorem ok_drw : TabOk mt_drw.2.1 tb_drw := by
  intro x hx
  have q : tb_drw.all (fun x => decide (decode method_3_code x.1 = .ok x.2)) = true := by decide +kernel
  exact of_decide_eq_true (List.all_eq_true.mp q x hx)
theorem pl_drw : plainFor mt_drw.1 = true := by first | decide +kernel | exact plainFor_of_name (by first | (simp [plainName, overriddenIn]; done) | decide +kernel)
theorem pd_drw : parseMethodDescriptor "(I)C" = some ⟨[.int], some .char⟩ := by decide +kernel

theorem and_2047 (x : Int32) : 0 ≤ (x &&& 2047).toInt ∧ (x &&& 2047).toInt ≤ 2047 := by
  have := c_and' 2047 x (by decide); rw [Int32.and_comm]; exact ⟨this.1, this.2⟩

set_option maxRecDepth 65536 in
set_option maxHeartbeats 4000000 in
theorem ct_drw {l : Launch} {Z : State} {a0 : Array Value} (G : Gd Z a0) {x : Int32} (h : Heap)  :
    Ct l Z EL1 mt_drw ({ frames := 0, cells := 0, slots := 0, locals := 0 } : Room) #[(.int x)] h [] (fun v h' => ∃ c, v = some (.int c) ∧ h = h' ∧ 0 ≤ c.toInt ∧ c.toInt ≤ 2047) := by
  refine Ct.of_wp pl_drw G.2.1 (Ls := #[.val (.int x), .unset]) rfl ?_
  refine Wp.run ok_drw 7 8 #[.val (.int x), .val (.int ((ush x (16 : Int32)) &&& (3 : Int32)))] [(.int ((ush x (16 : Int32)) &&& (3 : Int32)))] rfl ?_
  refine Wp.if0 ok_drw 14 rfl rfl (by decide) (by decide) (fun hc => ?_) (fun hc => ?_)
  · replace hc : ¬ ((ush x (16 : Int32)) &&& (3 : Int32)) = (0 : Int32) := hc
    refine Wp.run ok_drw 2 16 #[.val (.int x), .val (.int ((ush x (16 : Int32)) &&& (3 : Int32)))] [(.int (1 : Int32)), (.int ((ush x (16 : Int32)) &&& (3 : Int32)))] rfl ?_
    refine Wp.icmp ok_drw 22 rfl rfl (by decide) (by decide) (fun hd => ?_) (fun hd => ?_)
    · replace hd : ¬ ((ush x (16 : Int32)) &&& (3 : Int32)) = (1 : Int32) := hd
      refine Wp.run ok_drw 4 28 #[.val (.int x), .val (.int ((ush x (16 : Int32)) &&& (3 : Int32)))] [(.int (c16 (x &&& (2047 : Int32))))] rfl ?_
      refine Wp.at #[.val (.int x), .val (.int ((ush x (16 : Int32)) &&& (3 : Int32)))] [(.int (x &&& (2047 : Int32)))] ⟨rfl, (by rw [c16_w ⟨(and_2047 _).1, by have := (and_2047 x).2; omega⟩] <;> rfl)⟩ ?_
      exact Wp.retI ok_drw (t := .char) rfl (by decide) rfl rfl (fitw ⟨(and_2047 _).1, by have := (and_2047 x).2; omega⟩) ⟨_, rfl, rfl, and_2047 _⟩
    · replace hd : ((ush x (16 : Int32)) &&& (3 : Int32)) = (1 : Int32) := hd
      refine Wp.run ok_drw 1 21 #[.val (.int x), .val (.int ((ush x (16 : Int32)) &&& (3 : Int32)))] [(.int (125 : Int32))] rfl ?_
      exact Wp.retI ok_drw (t := .char) rfl (by decide) rfl rfl rfl ⟨_, rfl, rfl, by decide⟩
  · replace hc : ((ush x (16 : Int32)) &&& (3 : Int32)) = (0 : Int32) := hc
    refine Wp.run ok_drw 1 13 #[.val (.int x), .val (.int ((ush x (16 : Int32)) &&& (3 : Int32)))] [(.int (123 : Int32))] rfl ?_
    exact Wp.retI ok_drw (t := .char) rfl (by decide) rfl rfl rfl ⟨_, rfl, rfl, by decide⟩

abbrev mt_mak : Mth := (⟨"holdfast/HashSlotOfPinLaw", "make", "(ICCCC)Ljava/lang/String;"⟩, method_4_code, 5, some (.object "java/lang/String"))
def tb_mak : Tab := [(0, .iload_n 0, 1), (1, .ifCond .ne 14, 3), (4, .new 32, 3), (7, .dup, 1), (8, .iconst 0, 1), (9, .newarray .char, 2), (11, .invokespecial 34, 3), (14, .areturn, 1), (15, .iload_n 0, 1), (16, .iconst 1, 1), (17, .if_icmp .ne 8, 3), (20, .iload_n 1, 1), (21, .invokestatic 37, 3), (24, .areturn, 1), (25, .iload_n 0, 1), (26, .iconst 2, 1), (27, .if_icmp .ne 22, 3), (30, .new 32, 3), (33, .dup, 1), (34, .iconst 2, 1), (35, .newarray .char, 2), (37, .dup, 1), (38, .iconst 0, 1), (39, .iload_n 1, 1), (40, .castore, 1), (41, .dup, 1), (42, .iconst 1, 1), (43, .iload_n 2, 1), (44, .castore, 1), (45, .invokespecial 34, 3), (48, .areturn, 1), (49, .iload_n 0, 1), (50, .iconst 3, 1), (51, .if_icmp .ne 26, 3), (54, .new 32, 3), (57, .dup, 1), (58, .iconst 3, 1), (59, .newarray .char, 2), (61, .dup, 1), (62, .iconst 0, 1), (63, .iload_n 1, 1), (64, .castore, 1), (65, .dup, 1), (66, .iconst 1, 1), (67, .iload_n 2, 1), (68, .castore, 1), (69, .dup, 1), (70, .iconst 2, 1), (71, .iload_n 3, 1), (72, .castore, 1), (73, .invokespecial 34, 3), (76, .areturn, 1), (77, .new 32, 3), (80, .dup, 1), (81, .iconst 4, 1), (82, .newarray .char, 2), (84, .dup, 1), (85, .iconst 0, 1), (86, .iload_n 1, 1), (87, .castore, 1), (88, .dup, 1), (89, .iconst 1, 1), (90, .iload_n 2, 1), (91, .castore, 1), (92, .dup, 1), (93, .iconst 2, 1), (94, .iload_n 3, 1), (95, .castore, 1), (96, .dup, 1), (97, .iconst 3, 1), (98, .iload 4, 2), (100, .castore, 1), (101, .invokespecial 34, 3), (104, .areturn, 1)]
theorem ok_mak : TabOk mt_mak.2.1 tb_mak := by
  intro x hx
  have q : tb_mak.all (fun x => decide (decode method_4_code x.1 = .ok x.2)) = true := by decide +kernel
  exact of_decide_eq_true (List.all_eq_true.mp q x hx)
theorem pl_mak : plainFor mt_mak.1 = true := by first | decide +kernel | exact plainFor_of_name (by first | (simp [plainName, overriddenIn]; done) | decide +kernel)
theorem pd_mak : parseMethodDescriptor "(ICCCC)Ljava/lang/String;" = some ⟨[.int, .char, .char, .char, .char], some (.object "java/lang/String")⟩ := by decide +kernel

set_option maxRecDepth 65536 in
set_option maxHeartbeats 4000000 in
theorem ct_mak {l : Launch} {Z : State} {a0 : Array Value} (G : Gd Z a0) {k : Nat} (hk : k ≤ 4) {c0 c1 c2 c3 : Int32} (M0 : 0 ≤ c0.toInt ∧ c0.toInt ≤ 65535) (M1 : 0 ≤ c1.toInt ∧ c1.toInt ≤ 65535) (M2 : 0 ≤ c2.toInt ∧ c2.toInt ≤ 65535) (M3 : 0 ≤ c3.toInt ∧ c3.toInt ≤ 65535) (h : Heap)  :
    Ct l Z EL1 mt_mak ({ frames := 6, cells := 6, slots := 56, locals := 121 } : Room) #[(.int (Int32.ofNat k)), (.int c0), (.int c1), (.int c2), (.int c3)] h [] (fun v h' => ∃ a, v = some (.ref a) ∧ Ext h h' ∧ StrG Z h' a ([c0, c1, c2, c3].take k)) := by
  refine Ct.of_wp pl_mak G.2.1 (Ls := #[.val (.int (Int32.ofNat k)), .val (.int c0), .val (.int c1), .val (.int c2), .val (.int c3)]) rfl ?_
  refine Wp.run ok_mak 1 1 #[.val (.int (Int32.ofNat k)), .val (.int c0), .val (.int c1), .val (.int c2), .val (.int c3)] [(.int (Int32.ofNat k))] rfl ?_
  refine Wp.if0 ok_mak 15 rfl rfl (by decide) (by decide) (fun hk0 => ?_) (fun hk0 => ?_)
  · replace hk0 : ¬ (Int32.ofNat k) = (0 : Int32) := hk0
    have n0 : k ≠ 0 := fun e => hk0 (by rw [e]; rfl)
    refine Wp.run ok_mak 2 17 #[.val (.int (Int32.ofNat k)), .val (.int c0), .val (.int c1), .val (.int c2), .val (.int c3)] [(.int (1 : Int32)), (.int (Int32.ofNat k))] rfl ?_
    refine Wp.icmp ok_mak 25 rfl rfl (by decide) (by decide) (fun hk1 => ?_) (fun hk1 => ?_)
    · replace hk1 : ¬ (Int32.ofNat k) = (1 : Int32) := hk1
      have n1 : k ≠ 1 := fun e => hk1 (by rw [e]; rfl)
      refine Wp.run ok_mak 2 27 #[.val (.int (Int32.ofNat k)), .val (.int c0), .val (.int c1), .val (.int c2), .val (.int c3)] [(.int (2 : Int32)), (.int (Int32.ofNat k))] rfl ?_
      refine Wp.icmp ok_mak 49 rfl rfl (by decide) (by decide) (fun hk2 => ?_) (fun hk2 => ?_)
      · replace hk2 : ¬ (Int32.ofNat k) = (2 : Int32) := hk2
        have n2 : k ≠ 2 := fun e => hk2 (by rw [e]; rfl)
        refine Wp.run ok_mak 2 51 #[.val (.int (Int32.ofNat k)), .val (.int c0), .val (.int c1), .val (.int c2), .val (.int c3)] [(.int (3 : Int32)), (.int (Int32.ofNat k))] rfl ?_
        refine Wp.icmp ok_mak 77 rfl rfl (by decide) (by decide) (fun hk3 => ?_) (fun hk3 => ?_)
        · replace hk3 : ¬ (Int32.ofNat k) = (3 : Int32) := hk3
          have n3 : k ≠ 3 := fun e => hk3 (by rw [e]; rfl)
          obtain rfl : k = 4 := by omega
          refine Wp.new ok_mak (G.1 _ (List.mem_of_getElem? (i := 9) rfl)) (G.1 _ (List.mem_of_getElem? (i := 10) rfl)) (G.1 _ (List.mem_of_getElem? (i := 11) rfl)) rfl (Nat.le_of_ble_eq_true rfl) (Nat.le_of_ble_eq_true rfl) ?_
          intro hn En Xn D_hn
          have F1_hn : Fld Z hn h.size "java/lang/String" "coder" "B" (.int 0) := D_hn (Or.inr (G.1 _ (List.mem_of_getElem? (i := 25) rfl))) (ty := .byte) (by decide)
          have F2_hn : Fld Z hn h.size "java/lang/String" "value" "[B" .null := D_hn (Or.inr (G.1 _ (List.mem_of_getElem? (i := 24) rfl))) (ty := .array .byte) (by decide)
          refine Wp.run ok_mak 2 82 #[.val (.int (Int32.ofNat 4)), .val (.int c0), .val (.int c1), .val (.int c2), .val (.int c3)] [(.int (4 : Int32)), (.ref h.size), (.ref h.size)] rfl ?_
          refine Wp.newP ok_mak (len := 4) (cap := 4) (G.1 _ (List.mem_of_getElem? (i := 5) rfl)) rfl rfl rfl (Nat.le_of_ble_eq_true rfl) (Nat.le_of_ble_eq_true rfl) (Nat.le_of_ble_eq_true rfl) (Nat.le_of_ble_eq_true rfl) ?_
          intro hm Em Am
          refine Wp.run ok_mak 3 87 #[.val (.int (Int32.ofNat 4)), .val (.int c0), .val (.int c1), .val (.int c2), .val (.int c3)] [(.int c0), (.int (0 : Int32)), (.ref hn.size), (.ref hn.size), (.ref h.size), (.ref h.size)] rfl ?_
          refine Wp.aput ok_mak Am (List.mem_of_getElem? (i := 0) rfl) (i := 0) rfl (Nat.le_of_ble_eq_true rfl) rfl (fitw M0) rfl rfl rfl ?_
          intro hq1 wq2 Aq3
          refine Wp.run ok_mak 3 91 #[.val (.int (Int32.ofNat 4)), .val (.int c0), .val (.int c1), .val (.int c2), .val (.int c3)] [(.int c1), (.int (1 : Int32)), (.ref hn.size), (.ref hn.size), (.ref h.size), (.ref h.size)] rfl ?_
          refine Wp.aput ok_mak Aq3 (List.mem_of_getElem? (i := 0) rfl) (i := 1) rfl (Nat.le_of_ble_eq_true rfl) rfl (fitw M1) rfl rfl rfl ?_
          intro hq4 wq5 Aq6
          refine Wp.run ok_mak 3 95 #[.val (.int (Int32.ofNat 4)), .val (.int c0), .val (.int c1), .val (.int c2), .val (.int c3)] [(.int c2), (.int (2 : Int32)), (.ref hn.size), (.ref hn.size), (.ref h.size), (.ref h.size)] rfl ?_
          refine Wp.aput ok_mak Aq6 (List.mem_of_getElem? (i := 0) rfl) (i := 2) rfl (Nat.le_of_ble_eq_true rfl) rfl (fitw M2) rfl rfl rfl ?_
          intro hq7 wq8 Aq9
          refine Wp.run ok_mak 3 100 #[.val (.int (Int32.ofNat 4)), .val (.int c0), .val (.int c1), .val (.int c2), .val (.int c3)] [(.int c3), (.int (3 : Int32)), (.ref hn.size), (.ref hn.size), (.ref h.size), (.ref h.size)] rfl ?_
          refine Wp.aput ok_mak Aq9 (List.mem_of_getElem? (i := 0) rfl) (i := 3) rfl (Nat.le_of_ble_eq_true rfl) rfl (fitw M3) rfl rfl rfl ?_
          intro hq10 wq11 Aq12
          have Kn : Keep hm hq10 [hn.size] := (((((Keep.refl hm [hn.size]).trans (wr_keep wq2) (fun x hx => Or.inl hx)).trans (wr_keep wq5) (fun x hx => Or.inl hx)).trans (wr_keep wq8) (fun x hx => Or.inl hx)).trans (wr_keep wq11) (fun x hx => Or.inl hx))
          have nn : h.size ∉ [hn.size] := ninS (Nat.ne_of_lt Xn.lt) nin0
          have hW : W16 [c0, c1, c2, c3] := fun x hx => by simp at hx; rcases hx with rfl | rfl | rfl | rfl <;> assumption
          refine Wp.callI ok_mak (a := h.size) (argsL := [(.ref hn.size)]) (rest := [(.ref h.size)]) (ct_sig G (cs := [c0, c1, c2, c3]) hW (Nat.le_of_ble_eq_true rfl) hq10 ((Xn.ext Em).keep Kn) ((F1_hn.ext Em).keep Kn nn) ((F2_hn.ext Em).keep Kn nn) Aq12) G.2.1 (G.1 _ (List.mem_of_getElem? (i := 12) rfl)) (G.1 _ (List.mem_of_getElem? (i := 13) rfl)) (G.1 _ (List.mem_of_getElem? (i := 11) rfl)) (G.1 _ (List.mem_of_getElem? (i := 14) rfl)) rfl rfl rfl rfl (by decide) pd_si1 rfl rfl (Nat.le_of_ble_eq_true rfl) (Nat.le_of_ble_eq_true rfl) (Nat.le_of_ble_eq_true rfl) (Nat.le_of_ble_eq_true rfl) (allS (List.mem_of_getElem? (i := 1) rfl) all0) ?_
          rintro _ hs ⟨rfl, Ks, Ss⟩ -
          have Es : Ext h hs := ext_keep (ext_keep (ext_trans En Em) Kn (all1 En.1)) Ks (all1 (Nat.le_refl _))
          exact Wp.retA ok_mak (t := (.object "java/lang/String")) rfl rfl rfl rfl rfl ⟨_, rfl, Es, Ss⟩
        · replace hk3 : (Int32.ofNat k) = (3 : Int32) := hk3
          obtain rfl : k = 3 := (n_eq (by omega) (by decide)).mp hk3
          refine Wp.new ok_mak (G.1 _ (List.mem_of_getElem? (i := 9) rfl)) (G.1 _ (List.mem_of_getElem? (i := 10) rfl)) (G.1 _ (List.mem_of_getElem? (i := 11) rfl)) rfl (Nat.le_of_ble_eq_true rfl) (Nat.le_of_ble_eq_true rfl) ?_
          intro hn En Xn D_hn
          have F1_hn : Fld Z hn h.size "java/lang/String" "coder" "B" (.int 0) := D_hn (Or.inr (G.1 _ (List.mem_of_getElem? (i := 25) rfl))) (ty := .byte) (by decide)
          have F2_hn : Fld Z hn h.size "java/lang/String" "value" "[B" .null := D_hn (Or.inr (G.1 _ (List.mem_of_getElem? (i := 24) rfl))) (ty := .array .byte) (by decide)
          refine Wp.run ok_mak 2 59 #[.val (.int (Int32.ofNat 3)), .val (.int c0), .val (.int c1), .val (.int c2), .val (.int c3)] [(.int (3 : Int32)), (.ref h.size), (.ref h.size)] rfl ?_
          refine Wp.newP ok_mak (len := 3) (cap := 3) (G.1 _ (List.mem_of_getElem? (i := 5) rfl)) rfl rfl rfl (Nat.le_of_ble_eq_true rfl) (Nat.le_of_ble_eq_true rfl) (Nat.le_of_ble_eq_true rfl) (Nat.le_of_ble_eq_true rfl) ?_
          intro hm Em Am
          refine Wp.run ok_mak 3 64 #[.val (.int (Int32.ofNat 3)), .val (.int c0), .val (.int c1), .val (.int c2), .val (.int c3)] [(.int c0), (.int (0 : Int32)), (.ref hn.size), (.ref hn.size), (.ref h.size), (.ref h.size)] rfl ?_
          refine Wp.aput ok_mak Am (List.mem_of_getElem? (i := 0) rfl) (i := 0) rfl (Nat.le_of_ble_eq_true rfl) rfl (fitw M0) rfl rfl rfl ?_
          intro hq13 wq14 Aq15
          refine Wp.run ok_mak 3 68 #[.val (.int (Int32.ofNat 3)), .val (.int c0), .val (.int c1), .val (.int c2), .val (.int c3)] [(.int c1), (.int (1 : Int32)), (.ref hn.size), (.ref hn.size), (.ref h.size), (.ref h.size)] rfl ?_
          refine Wp.aput ok_mak Aq15 (List.mem_of_getElem? (i := 0) rfl) (i := 1) rfl (Nat.le_of_ble_eq_true rfl) rfl (fitw M1) rfl rfl rfl ?_
          intro hq16 wq17 Aq18
          refine Wp.run ok_mak 3 72 #[.val (.int (Int32.ofNat 3)), .val (.int c0), .val (.int c1), .val (.int c2), .val (.int c3)] [(.int c2), (.int (2 : Int32)), (.ref hn.size), (.ref hn.size), (.ref h.size), (.ref h.size)] rfl ?_
          refine Wp.aput ok_mak Aq18 (List.mem_of_getElem? (i := 0) rfl) (i := 2) rfl (Nat.le_of_ble_eq_true rfl) rfl (fitw M2) rfl rfl rfl ?_
          intro hq19 wq20 Aq21
          have Kn : Keep hm hq19 [hn.size] := ((((Keep.refl hm [hn.size]).trans (wr_keep wq14) (fun x hx => Or.inl hx)).trans (wr_keep wq17) (fun x hx => Or.inl hx)).trans (wr_keep wq20) (fun x hx => Or.inl hx))
          have nn : h.size ∉ [hn.size] := ninS (Nat.ne_of_lt Xn.lt) nin0
          have hW : W16 [c0, c1, c2] := fun x hx => by simp at hx; rcases hx with rfl | rfl | rfl <;> assumption
          refine Wp.callI ok_mak (a := h.size) (argsL := [(.ref hn.size)]) (rest := [(.ref h.size)]) (ct_sig G (cs := [c0, c1, c2]) hW (Nat.le_of_ble_eq_true rfl) hq19 ((Xn.ext Em).keep Kn) ((F1_hn.ext Em).keep Kn nn) ((F2_hn.ext Em).keep Kn nn) Aq21) G.2.1 (G.1 _ (List.mem_of_getElem? (i := 12) rfl)) (G.1 _ (List.mem_of_getElem? (i := 13) rfl)) (G.1 _ (List.mem_of_getElem? (i := 11) rfl)) (G.1 _ (List.mem_of_getElem? (i := 14) rfl)) rfl rfl rfl rfl (by decide) pd_si1 rfl rfl (Nat.le_of_ble_eq_true rfl) (Nat.le_of_ble_eq_true rfl) (Nat.le_of_ble_eq_true rfl) (Nat.le_of_ble_eq_true rfl) (allS (List.mem_of_getElem? (i := 1) rfl) all0) ?_
          rintro _ hs ⟨rfl, Ks, Ss⟩ -
          have Es : Ext h hs := ext_keep (ext_keep (ext_trans En Em) Kn (all1 En.1)) Ks (all1 (Nat.le_refl _))
          exact Wp.retA ok_mak (t := (.object "java/lang/String")) rfl rfl rfl rfl rfl ⟨_, rfl, Es, Ss⟩
      · replace hk2 : (Int32.ofNat k) = (2 : Int32) := hk2
        obtain rfl : k = 2 := (n_eq (by omega) (by decide)).mp hk2
        refine Wp.new ok_mak (G.1 _ (List.mem_of_getElem? (i := 9) rfl)) (G.1 _ (List.mem_of_getElem? (i := 10) rfl)) (G.1 _ (List.mem_of_getElem? (i := 11) rfl)) rfl (Nat.le_of_ble_eq_true rfl) (Nat.le_of_ble_eq_true rfl) ?_
        intro hn En Xn D_hn
        have F1_hn : Fld Z hn h.size "java/lang/String" "coder" "B" (.int 0) := D_hn (Or.inr (G.1 _ (List.mem_of_getElem? (i := 25) rfl))) (ty := .byte) (by decide)
        have F2_hn : Fld Z hn h.size "java/lang/String" "value" "[B" .null := D_hn (Or.inr (G.1 _ (List.mem_of_getElem? (i := 24) rfl))) (ty := .array .byte) (by decide)
        refine Wp.run ok_mak 2 35 #[.val (.int (Int32.ofNat 2)), .val (.int c0), .val (.int c1), .val (.int c2), .val (.int c3)] [(.int (2 : Int32)), (.ref h.size), (.ref h.size)] rfl ?_
        refine Wp.newP ok_mak (len := 2) (cap := 2) (G.1 _ (List.mem_of_getElem? (i := 5) rfl)) rfl rfl rfl (Nat.le_of_ble_eq_true rfl) (Nat.le_of_ble_eq_true rfl) (Nat.le_of_ble_eq_true rfl) (Nat.le_of_ble_eq_true rfl) ?_
        intro hm Em Am
        refine Wp.run ok_mak 3 40 #[.val (.int (Int32.ofNat 2)), .val (.int c0), .val (.int c1), .val (.int c2), .val (.int c3)] [(.int c0), (.int (0 : Int32)), (.ref hn.size), (.ref hn.size), (.ref h.size), (.ref h.size)] rfl ?_
        refine Wp.aput ok_mak Am (List.mem_of_getElem? (i := 0) rfl) (i := 0) rfl (Nat.le_of_ble_eq_true rfl) rfl (fitw M0) rfl rfl rfl ?_
        intro hq22 wq23 Aq24
        refine Wp.run ok_mak 3 44 #[.val (.int (Int32.ofNat 2)), .val (.int c0), .val (.int c1), .val (.int c2), .val (.int c3)] [(.int c1), (.int (1 : Int32)), (.ref hn.size), (.ref hn.size), (.ref h.size), (.ref h.size)] rfl ?_
        refine Wp.aput ok_mak Aq24 (List.mem_of_getElem? (i := 0) rfl) (i := 1) rfl (Nat.le_of_ble_eq_true rfl) rfl (fitw M1) rfl rfl rfl ?_
        intro hq25 wq26 Aq27
        have Kn : Keep hm hq25 [hn.size] := (((Keep.refl hm [hn.size]).trans (wr_keep wq23) (fun x hx => Or.inl hx)).trans (wr_keep wq26) (fun x hx => Or.inl hx))
        have nn : h.size ∉ [hn.size] := ninS (Nat.ne_of_lt Xn.lt) nin0
        have hW : W16 [c0, c1] := fun x hx => by simp at hx; rcases hx with rfl | rfl <;> assumption
        refine Wp.callI ok_mak (a := h.size) (argsL := [(.ref hn.size)]) (rest := [(.ref h.size)]) (ct_sig G (cs := [c0, c1]) hW (Nat.le_of_ble_eq_true rfl) hq25 ((Xn.ext Em).keep Kn) ((F1_hn.ext Em).keep Kn nn) ((F2_hn.ext Em).keep Kn nn) Aq27) G.2.1 (G.1 _ (List.mem_of_getElem? (i := 12) rfl)) (G.1 _ (List.mem_of_getElem? (i := 13) rfl)) (G.1 _ (List.mem_of_getElem? (i := 11) rfl)) (G.1 _ (List.mem_of_getElem? (i := 14) rfl)) rfl rfl rfl rfl (by decide) pd_si1 rfl rfl (Nat.le_of_ble_eq_true rfl) (Nat.le_of_ble_eq_true rfl) (Nat.le_of_ble_eq_true rfl) (Nat.le_of_ble_eq_true rfl) (allS (List.mem_of_getElem? (i := 1) rfl) all0) ?_
        rintro _ hs ⟨rfl, Ks, Ss⟩ -
        have Es : Ext h hs := ext_keep (ext_keep (ext_trans En Em) Kn (all1 En.1)) Ks (all1 (Nat.le_refl _))
        exact Wp.retA ok_mak (t := (.object "java/lang/String")) rfl rfl rfl rfl rfl ⟨_, rfl, Es, Ss⟩
    · replace hk1 : (Int32.ofNat k) = (1 : Int32) := hk1
      obtain rfl : k = 1 := (n_eq (by omega) (by decide)).mp hk1
      refine Wp.run ok_mak 1 21 #[.val (.int (Int32.ofNat 1)), .val (.int c0), .val (.int c1), .val (.int c2), .val (.int c3)] [(.int c0)] rfl ?_
      refine Wp.callS ok_mak (argsL := [(.int c0)]) (rest := []) (ct_voc G M0 h) G.2.1 (G.1 _ (List.mem_of_getElem? (i := 198) rfl)) (G.1 _ (List.mem_of_getElem? (i := 199) rfl)) (G.1 _ (List.mem_of_getElem? (i := 11) rfl)) (G.1 _ (List.mem_of_getElem? (i := 200) rfl)) rfl rfl (by decide) pd_voc rfl rfl (Nat.le_of_ble_eq_true rfl) (Nat.le_of_ble_eq_true rfl) (Nat.le_of_ble_eq_true rfl) (Nat.le_of_ble_eq_true rfl) all0 ?_
      rintro _ h1 ⟨a, rfl, E1, S1⟩ -
      exact Wp.retA ok_mak (t := (.object "java/lang/String")) rfl rfl rfl rfl rfl ⟨a, rfl, E1, S1⟩
  · replace hk0 : (Int32.ofNat k) = (0 : Int32) := hk0
    obtain rfl : k = 0 := (n_eq (by omega) (by decide)).mp hk0
    refine Wp.new ok_mak (G.1 _ (List.mem_of_getElem? (i := 9) rfl)) (G.1 _ (List.mem_of_getElem? (i := 10) rfl)) (G.1 _ (List.mem_of_getElem? (i := 11) rfl)) rfl (Nat.le_of_ble_eq_true rfl) (Nat.le_of_ble_eq_true rfl) ?_
    intro hn En Xn D_hn
    have F1_hn : Fld Z hn h.size "java/lang/String" "coder" "B" (.int 0) := D_hn (Or.inr (G.1 _ (List.mem_of_getElem? (i := 25) rfl))) (ty := .byte) (by decide)
    have F2_hn : Fld Z hn h.size "java/lang/String" "value" "[B" .null := D_hn (Or.inr (G.1 _ (List.mem_of_getElem? (i := 24) rfl))) (ty := .array .byte) (by decide)
    refine Wp.run ok_mak 2 9 #[.val (.int (Int32.ofNat 0)), .val (.int c0), .val (.int c1), .val (.int c2), .val (.int c3)] [(.int (0 : Int32)), (.ref h.size), (.ref h.size)] rfl ?_
    refine Wp.newP ok_mak (len := 0) (cap := 0) (G.1 _ (List.mem_of_getElem? (i := 5) rfl)) rfl rfl rfl (Nat.le_of_ble_eq_true rfl) (Nat.le_of_ble_eq_true rfl) (Nat.le_of_ble_eq_true rfl) (Nat.le_of_ble_eq_true rfl) ?_
    intro hm Em Am
    have Kn : Keep hm hm [hn.size] := (Keep.refl hm [hn.size])
    have nn : h.size ∉ [hn.size] := ninS (Nat.ne_of_lt Xn.lt) nin0
    have hW : W16 [] := fun x hx => nomatch hx
    refine Wp.callI ok_mak (a := h.size) (argsL := [(.ref hn.size)]) (rest := [(.ref h.size)]) (ct_sig G (cs := []) hW (Nat.le_of_ble_eq_true rfl) hm ((Xn.ext Em).keep Kn) ((F1_hn.ext Em).keep Kn nn) ((F2_hn.ext Em).keep Kn nn) Am) G.2.1 (G.1 _ (List.mem_of_getElem? (i := 12) rfl)) (G.1 _ (List.mem_of_getElem? (i := 13) rfl)) (G.1 _ (List.mem_of_getElem? (i := 11) rfl)) (G.1 _ (List.mem_of_getElem? (i := 14) rfl)) rfl rfl rfl rfl (by decide) pd_si1 rfl rfl (Nat.le_of_ble_eq_true rfl) (Nat.le_of_ble_eq_true rfl) (Nat.le_of_ble_eq_true rfl) (Nat.le_of_ble_eq_true rfl) (allS (List.mem_of_getElem? (i := 1) rfl) all0) ?_
    rintro _ hs ⟨rfl, Ks, Ss⟩ -
    have Es : Ext h hs := ext_keep (ext_keep (ext_trans En Em) Kn (all1 En.1)) Ks (all1 (Nat.le_refl _))
    exact Wp.retA ok_mak (t := (.object "java/lang/String")) rfl rfl rfl rfl rfl ⟨_, rfl, Es, Ss⟩

abbrev mt_fnd : Mth := (⟨"holdfast/HashSlotOfPinLaw", "find", "([CICI)I"⟩, method_5_code, 4, some .int)
def tb_fnd : Tab := [(0, .iload_n 3, 1), (1, .ifCond .gt 17, 3), (4, .iconst 0, 1), (5, .iload_n 1, 1), (6, .if_icmp .ge 12, 3), (9, .aload_n 0, 1), (10, .iconst 0, 1), (11, .caload, 1), (12, .iload_n 2, 1), (13, .if_icmp .ne 5, 3), (16, .iconst 0, 1), (17, .ireturn, 1), (18, .iload_n 3, 1), (19, .iconst 1, 1), (20, .if_icmp .gt 17, 3), (23, .iconst 1, 1), (24, .iload_n 1, 1), (25, .if_icmp .ge 12, 3), (28, .aload_n 0, 1), (29, .iconst 1, 1), (30, .caload, 1), (31, .iload_n 2, 1), (32, .if_icmp .ne 5, 3), (35, .iconst 1, 1), (36, .ireturn, 1), (37, .iload_n 3, 1), (38, .iconst 2, 1), (39, .if_icmp .gt 17, 3), (42, .iconst 2, 1), (43, .iload_n 1, 1), (44, .if_icmp .ge 12, 3), (47, .aload_n 0, 1), (48, .iconst 2, 1), (49, .caload, 1), (50, .iload_n 2, 1), (51, .if_icmp .ne 5, 3), (54, .iconst 2, 1), (55, .ireturn, 1), (56, .iload_n 3, 1), (57, .iconst 3, 1), (58, .if_icmp .gt 17, 3), (61, .iconst 3, 1), (62, .iload_n 1, 1), (63, .if_icmp .ge 12, 3), (66, .aload_n 0, 1), (67, .iconst 3, 1), (68, .caload, 1), (69, .iload_n 2, 1), (70, .if_icmp .ne 5, 3), (73, .iconst 3, 1), (74, .ireturn, 1), (75, .iconst (-1), 1), (76, .ireturn, 1)]
theorem ok_fnd : TabOk mt_fnd.2.1 tb_fnd := by
  intro x hx
  have q : tb_fnd.all (fun x => decide (decode method_5_code x.1 = .ok x.2)) = true := by decide +kernel
  exact of_decide_eq_true (List.all_eq_true.mp q x hx)
theorem pl_fnd : plainFor mt_fnd.1 = true := by first | decide +kernel | exact plainFor_of_name (by first | (simp [plainName, overriddenIn]; done) | decide +kernel)
theorem pd_fnd : parseMethodDescriptor "([CICI)I" = some ⟨[(.array .char), .int, .char, .int], some .int⟩ := by decide +kernel

set_option maxRecDepth 65536 in
set_option maxHeartbeats 4000000 in
theorem ct_fnd {l : Launch} {Z : State} {a0 : Array Value} (G : Gd Z a0) {a : Addr} {x0 x1 x2 x3 c : Int32} {n f : Nat} (hn : n ≤ 4) (hf : f ≤ 4) (h : Heap) (A : Ar Z h a .char ([x0, x1, x2, x3].map .int)) :
    Ct l Z EL1 mt_fnd ({ frames := 0, cells := 0, slots := 0, locals := 0 } : Room) #[(.ref a), (.int (Int32.ofNat n)), (.int c), (.int (Int32.ofNat f))] h [] (fun v h' => v = some (.int (ixF (([x0, x1, x2, x3].take n).drop f) c f)) ∧ h = h') := by
  refine Ct.of_wp pl_fnd G.2.1 (Ls := #[.val (.ref a), .val (.int (Int32.ofNat n)), .val (.int c), .val (.int (Int32.ofNat f))]) rfl ?_
  refine Wp.run ok_fnd 1 1 #[.val (.ref a), .val (.int (Int32.ofNat n)), .val (.int c), .val (.int (Int32.ofNat f))] [(.int (Int32.ofNat f))] rfl ?_
  refine Wp.if0 ok_fnd 18 rfl rfl (by decide) (by decide) (fun ha0 => ?_) (fun ha0 => ?_)
  · replace ha0 : (0 : Int32) < (Int32.ofNat f) := ha0
    have N0 : f ≤ 0 → ([x0, x1, x2, x3].take n)[0]? ≠ some c := fun z => absurd ((n_lt (i := 0) (by decide) (by omega)).mp ha0) (by omega)
    refine Wp.run ok_fnd 2 20 #[.val (.ref a), .val (.int (Int32.ofNat n)), .val (.int c), .val (.int (Int32.ofNat f))] [(.int (1 : Int32)), (.int (Int32.ofNat f))] rfl ?_
    refine Wp.icmp ok_fnd 37 rfl rfl (by decide) (by decide) (fun ha1 => ?_) (fun ha1 => ?_)
    · replace ha1 : (1 : Int32) < (Int32.ofNat f) := ha1
      have N1 : f ≤ 1 → ([x0, x1, x2, x3].take n)[1]? ≠ some c := fun z => absurd ((n_lt (i := 1) (by decide) (by omega)).mp ha1) (by omega)
      refine Wp.run ok_fnd 2 39 #[.val (.ref a), .val (.int (Int32.ofNat n)), .val (.int c), .val (.int (Int32.ofNat f))] [(.int (2 : Int32)), (.int (Int32.ofNat f))] rfl ?_
      refine Wp.icmp ok_fnd 56 rfl rfl (by decide) (by decide) (fun ha2 => ?_) (fun ha2 => ?_)
      · replace ha2 : (2 : Int32) < (Int32.ofNat f) := ha2
        have N2 : f ≤ 2 → ([x0, x1, x2, x3].take n)[2]? ≠ some c := fun z => absurd ((n_lt (i := 2) (by decide) (by omega)).mp ha2) (by omega)
        refine Wp.run ok_fnd 2 58 #[.val (.ref a), .val (.int (Int32.ofNat n)), .val (.int c), .val (.int (Int32.ofNat f))] [(.int (3 : Int32)), (.int (Int32.ofNat f))] rfl ?_
        refine Wp.icmp ok_fnd 75 rfl rfl (by decide) (by decide) (fun ha3 => ?_) (fun ha3 => ?_)
        · replace ha3 : (3 : Int32) < (Int32.ofNat f) := ha3
          have N3 : f ≤ 3 → ([x0, x1, x2, x3].take n)[3]? ≠ some c := fun z => absurd ((n_lt (i := 3) (by decide) (by omega)).mp ha3) (by omega)
          refine Wp.run ok_fnd 1 76 #[.val (.ref a), .val (.int (Int32.ofNat n)), .val (.int c), .val (.int (Int32.ofNat f))] [(.int (-1 : Int32))] rfl ?_
          have hno : ∀ i, f ≤ i → ([x0, x1, x2, x3].take n)[i]? ≠ some c := fun i hi => by
            by_cases hj4 : i < 4
            · obtain rfl | rfl | rfl | rfl : i = 0 ∨ i = 1 ∨ i = 2 ∨ i = 3 := by omega
              · exact N0 hi
              · exact N1 hi
              · exact N2 hi
              · exact N3 hi
            · rw [List.getElem?_eq_none (Nat.le_trans (by rw [List.length_take]; exact Nat.min_le_right _ _) (Nat.le_of_not_lt hj4))]; exact fun z => nomatch z
          exact Wp.retI ok_fnd (t := .int) rfl (by decide) rfl rfl rfl ⟨by rw [ix_none hno], rfl⟩
        · replace ha3 : ¬ (3 : Int32) < (Int32.ofNat f) := ha3
          have g3 : f ≤ 3 := Nat.le_of_not_lt fun z => ha3 ((n_lt (i := 3) (by decide) (by omega)).mpr z)
          refine Wp.run ok_fnd 2 63 #[.val (.ref a), .val (.int (Int32.ofNat n)), .val (.int c), .val (.int (Int32.ofNat f))] [(.int (Int32.ofNat n)), (.int (3 : Int32))] rfl ?_
          refine Wp.icmp ok_fnd 75 rfl rfl (by decide) (by decide) (fun hb3 => ?_) (fun hb3 => ?_)
          · replace hb3 : ¬ (3 : Int32) < (Int32.ofNat n) := hb3
            have N3 : f ≤ 3 → ([x0, x1, x2, x3].take n)[3]? ≠ some c := fun _ => by
              have z : n ≤ 3 := Nat.le_of_not_lt fun z => hb3 ((n_lt (i := 3) (by decide) (by omega)).mpr z)
              rw [List.getElem?_eq_none (by rw [List.length_take]; omega)]; exact fun y => nomatch y
            refine Wp.run ok_fnd 1 76 #[.val (.ref a), .val (.int (Int32.ofNat n)), .val (.int c), .val (.int (Int32.ofNat f))] [(.int (-1 : Int32))] rfl ?_
            have hno : ∀ i, f ≤ i → ([x0, x1, x2, x3].take n)[i]? ≠ some c := fun i hi => by
              by_cases hj4 : i < 4
              · obtain rfl | rfl | rfl | rfl : i = 0 ∨ i = 1 ∨ i = 2 ∨ i = 3 := by omega
                · exact N0 hi
                · exact N1 hi
                · exact N2 hi
                · exact N3 hi
              · rw [List.getElem?_eq_none (Nat.le_trans (by rw [List.length_take]; exact Nat.min_le_right _ _) (Nat.le_of_not_lt hj4))]; exact fun z => nomatch z
            exact Wp.retI ok_fnd (t := .int) rfl (by decide) rfl rfl rfl ⟨by rw [ix_none hno], rfl⟩
          · replace hb3 : (3 : Int32) < (Int32.ofNat n) := hb3
            have e3 : ([x0, x1, x2, x3].take n)[3]? = some x3 := by
              have z : 3 < n := (n_lt (i := 3) (by decide) (by omega)).mp hb3
              rw [List.getElem?_take_of_lt z]; rfl
            refine Wp.run ok_fnd 2 68 #[.val (.ref a), .val (.int (Int32.ofNat n)), .val (.int c), .val (.int (Int32.ofNat f))] [(.int (3 : Int32)), (.ref a)] rfl ?_
            refine Wp.aget ok_fnd A (i := 3) (v := (.int x3)) rfl rfl rfl rfl rfl ?_
            refine Wp.run ok_fnd 1 70 #[.val (.ref a), .val (.int (Int32.ofNat n)), .val (.int c), .val (.int (Int32.ofNat f))] [(.int c), (.int x3)] rfl ?_
            refine Wp.icmp ok_fnd 75 rfl rfl (by decide) (by decide) (fun hc3 => ?_) (fun hc3 => ?_)
            · replace hc3 : ¬ x3 = c := hc3
              have N3 : f ≤ 3 → ([x0, x1, x2, x3].take n)[3]? ≠ some c := fun _ => by rw [e3]; exact fun y => hc3 (Option.some.inj y)
              refine Wp.run ok_fnd 1 76 #[.val (.ref a), .val (.int (Int32.ofNat n)), .val (.int c), .val (.int (Int32.ofNat f))] [(.int (-1 : Int32))] rfl ?_
              have hno : ∀ i, f ≤ i → ([x0, x1, x2, x3].take n)[i]? ≠ some c := fun i hi => by
                by_cases hj4 : i < 4
                · obtain rfl | rfl | rfl | rfl : i = 0 ∨ i = 1 ∨ i = 2 ∨ i = 3 := by omega
                  · exact N0 hi
                  · exact N1 hi
                  · exact N2 hi
                  · exact N3 hi
                · rw [List.getElem?_eq_none (Nat.le_trans (by rw [List.length_take]; exact Nat.min_le_right _ _) (Nat.le_of_not_lt hj4))]; exact fun z => nomatch z
              exact Wp.retI ok_fnd (t := .int) rfl (by decide) rfl rfl rfl ⟨by rw [ix_none hno], rfl⟩
            · replace hc3 : x3 = c := hc3
              have hno : ∀ i, f ≤ i → i < 3 → ([x0, x1, x2, x3].take n)[i]? ≠ some c := fun i h1 h2 => by
                obtain rfl | rfl | rfl : i = 0 ∨ i = 1 ∨ i = 2 := by omega
                · exact N0 h1
                · exact N1 h1
                · exact N2 h1
              refine Wp.run ok_fnd 1 74 #[.val (.ref a), .val (.int (Int32.ofNat n)), .val (.int c), .val (.int (Int32.ofNat f))] [(.int (3 : Int32))] rfl ?_
              exact Wp.retI ok_fnd (t := .int) rfl (by decide) rfl rfl rfl ⟨by rw [ix_hit g3 (by rw [e3, hc3]) hno]; rfl, rfl⟩
      · replace ha2 : ¬ (2 : Int32) < (Int32.ofNat f) := ha2
        have g2 : f ≤ 2 := Nat.le_of_not_lt fun z => ha2 ((n_lt (i := 2) (by decide) (by omega)).mpr z)
        refine Wp.run ok_fnd 2 44 #[.val (.ref a), .val (.int (Int32.ofNat n)), .val (.int c), .val (.int (Int32.ofNat f))] [(.int (Int32.ofNat n)), (.int (2 : Int32))] rfl ?_
        refine Wp.icmp ok_fnd 56 rfl rfl (by decide) (by decide) (fun hb2 => ?_) (fun hb2 => ?_)
        · replace hb2 : ¬ (2 : Int32) < (Int32.ofNat n) := hb2
          have N2 : f ≤ 2 → ([x0, x1, x2, x3].take n)[2]? ≠ some c := fun _ => by
            have z : n ≤ 2 := Nat.le_of_not_lt fun z => hb2 ((n_lt (i := 2) (by decide) (by omega)).mpr z)
            rw [List.getElem?_eq_none (by rw [List.length_take]; omega)]; exact fun y => nomatch y
          refine Wp.run ok_fnd 2 58 #[.val (.ref a), .val (.int (Int32.ofNat n)), .val (.int c), .val (.int (Int32.ofNat f))] [(.int (3 : Int32)), (.int (Int32.ofNat f))] rfl ?_
          refine Wp.icmp ok_fnd 75 rfl rfl (by decide) (by decide) (fun ha3 => ?_) (fun ha3 => ?_)
          · replace ha3 : (3 : Int32) < (Int32.ofNat f) := ha3
            have N3 : f ≤ 3 → ([x0, x1, x2, x3].take n)[3]? ≠ some c := fun z => absurd ((n_lt (i := 3) (by decide) (by omega)).mp ha3) (by omega)
            refine Wp.run ok_fnd 1 76 #[.val (.ref a), .val (.int (Int32.ofNat n)), .val (.int c), .val (.int (Int32.ofNat f))] [(.int (-1 : Int32))] rfl ?_
            have hno : ∀ i, f ≤ i → ([x0, x1, x2, x3].take n)[i]? ≠ some c := fun i hi => by
              by_cases hj4 : i < 4
              · obtain rfl | rfl | rfl | rfl : i = 0 ∨ i = 1 ∨ i = 2 ∨ i = 3 := by omega
                · exact N0 hi
                · exact N1 hi
                · exact N2 hi
                · exact N3 hi
              · rw [List.getElem?_eq_none (Nat.le_trans (by rw [List.length_take]; exact Nat.min_le_right _ _) (Nat.le_of_not_lt hj4))]; exact fun z => nomatch z
            exact Wp.retI ok_fnd (t := .int) rfl (by decide) rfl rfl rfl ⟨by rw [ix_none hno], rfl⟩
          · replace ha3 : ¬ (3 : Int32) < (Int32.ofNat f) := ha3
            have g3 : f ≤ 3 := Nat.le_of_not_lt fun z => ha3 ((n_lt (i := 3) (by decide) (by omega)).mpr z)
            refine Wp.run ok_fnd 2 63 #[.val (.ref a), .val (.int (Int32.ofNat n)), .val (.int c), .val (.int (Int32.ofNat f))] [(.int (Int32.ofNat n)), (.int (3 : Int32))] rfl ?_
            refine Wp.icmp ok_fnd 75 rfl rfl (by decide) (by decide) (fun hb3 => ?_) (fun hb3 => ?_)
            · replace hb3 : ¬ (3 : Int32) < (Int32.ofNat n) := hb3
              have N3 : f ≤ 3 → ([x0, x1, x2, x3].take n)[3]? ≠ some c := fun _ => by
                have z : n ≤ 3 := Nat.le_of_not_lt fun z => hb3 ((n_lt (i := 3) (by decide) (by omega)).mpr z)
                rw [List.getElem?_eq_none (by rw [List.length_take]; omega)]; exact fun y => nomatch y
              refine Wp.run ok_fnd 1 76 #[.val (.ref a), .val (.int (Int32.ofNat n)), .val (.int c), .val (.int (Int32.ofNat f))] [(.int (-1 : Int32))] rfl ?_
              have hno : ∀ i, f ≤ i → ([x0, x1, x2, x3].take n)[i]? ≠ some c := fun i hi => by
                by_cases hj4 : i < 4
                · obtain rfl | rfl | rfl | rfl : i = 0 ∨ i = 1 ∨ i = 2 ∨ i = 3 := by omega
                  · exact N0 hi
                  · exact N1 hi
                  · exact N2 hi
                  · exact N3 hi
                · rw [List.getElem?_eq_none (Nat.le_trans (by rw [List.length_take]; exact Nat.min_le_right _ _) (Nat.le_of_not_lt hj4))]; exact fun z => nomatch z
              exact Wp.retI ok_fnd (t := .int) rfl (by decide) rfl rfl rfl ⟨by rw [ix_none hno], rfl⟩
            · replace hb3 : (3 : Int32) < (Int32.ofNat n) := hb3
              have e3 : ([x0, x1, x2, x3].take n)[3]? = some x3 := by
                have z : 3 < n := (n_lt (i := 3) (by decide) (by omega)).mp hb3
                rw [List.getElem?_take_of_lt z]; rfl
              refine Wp.run ok_fnd 2 68 #[.val (.ref a), .val (.int (Int32.ofNat n)), .val (.int c), .val (.int (Int32.ofNat f))] [(.int (3 : Int32)), (.ref a)] rfl ?_
              refine Wp.aget ok_fnd A (i := 3) (v := (.int x3)) rfl rfl rfl rfl rfl ?_
              refine Wp.run ok_fnd 1 70 #[.val (.ref a), .val (.int (Int32.ofNat n)), .val (.int c), .val (.int (Int32.ofNat f))] [(.int c), (.int x3)] rfl ?_
              refine Wp.icmp ok_fnd 75 rfl rfl (by decide) (by decide) (fun hc3 => ?_) (fun hc3 => ?_)
              · replace hc3 : ¬ x3 = c := hc3
                have N3 : f ≤ 3 → ([x0, x1, x2, x3].take n)[3]? ≠ some c := fun _ => by rw [e3]; exact fun y => hc3 (Option.some.inj y)
                refine Wp.run ok_fnd 1 76 #[.val (.ref a), .val (.int (Int32.ofNat n)), .val (.int c), .val (.int (Int32.ofNat f))] [(.int (-1 : Int32))] rfl ?_
                have hno : ∀ i, f ≤ i → ([x0, x1, x2, x3].take n)[i]? ≠ some c := fun i hi => by
                  by_cases hj4 : i < 4
                  · obtain rfl | rfl | rfl | rfl : i = 0 ∨ i = 1 ∨ i = 2 ∨ i = 3 := by omega
                    · exact N0 hi
                    · exact N1 hi
                    · exact N2 hi
                    · exact N3 hi
                  · rw [List.getElem?_eq_none (Nat.le_trans (by rw [List.length_take]; exact Nat.min_le_right _ _) (Nat.le_of_not_lt hj4))]; exact fun z => nomatch z
                exact Wp.retI ok_fnd (t := .int) rfl (by decide) rfl rfl rfl ⟨by rw [ix_none hno], rfl⟩
              · replace hc3 : x3 = c := hc3
                have hno : ∀ i, f ≤ i → i < 3 → ([x0, x1, x2, x3].take n)[i]? ≠ some c := fun i h1 h2 => by
                  obtain rfl | rfl | rfl : i = 0 ∨ i = 1 ∨ i = 2 := by omega
                  · exact N0 h1
                  · exact N1 h1
                  · exact N2 h1
                refine Wp.run ok_fnd 1 74 #[.val (.ref a), .val (.int (Int32.ofNat n)), .val (.int c), .val (.int (Int32.ofNat f))] [(.int (3 : Int32))] rfl ?_
                exact Wp.retI ok_fnd (t := .int) rfl (by decide) rfl rfl rfl ⟨by rw [ix_hit g3 (by rw [e3, hc3]) hno]; rfl, rfl⟩
        · replace hb2 : (2 : Int32) < (Int32.ofNat n) := hb2
          have e2 : ([x0, x1, x2, x3].take n)[2]? = some x2 := by
            have z : 2 < n := (n_lt (i := 2) (by decide) (by omega)).mp hb2
            rw [List.getElem?_take_of_lt z]; rfl
          refine Wp.run ok_fnd 2 49 #[.val (.ref a), .val (.int (Int32.ofNat n)), .val (.int c), .val (.int (Int32.ofNat f))] [(.int (2 : Int32)), (.ref a)] rfl ?_
          refine Wp.aget ok_fnd A (i := 2) (v := (.int x2)) rfl rfl rfl rfl rfl ?_
          refine Wp.run ok_fnd 1 51 #[.val (.ref a), .val (.int (Int32.ofNat n)), .val (.int c), .val (.int (Int32.ofNat f))] [(.int c), (.int x2)] rfl ?_
          refine Wp.icmp ok_fnd 56 rfl rfl (by decide) (by decide) (fun hc2 => ?_) (fun hc2 => ?_)
          · replace hc2 : ¬ x2 = c := hc2
            have N2 : f ≤ 2 → ([x0, x1, x2, x3].take n)[2]? ≠ some c := fun _ => by rw [e2]; exact fun y => hc2 (Option.some.inj y)
            refine Wp.run ok_fnd 2 58 #[.val (.ref a), .val (.int (Int32.ofNat n)), .val (.int c), .val (.int (Int32.ofNat f))] [(.int (3 : Int32)), (.int (Int32.ofNat f))] rfl ?_
            refine Wp.icmp ok_fnd 75 rfl rfl (by decide) (by decide) (fun ha3 => ?_) (fun ha3 => ?_)
            · replace ha3 : (3 : Int32) < (Int32.ofNat f) := ha3
              have N3 : f ≤ 3 → ([x0, x1, x2, x3].take n)[3]? ≠ some c := fun z => absurd ((n_lt (i := 3) (by decide) (by omega)).mp ha3) (by omega)
              refine Wp.run ok_fnd 1 76 #[.val (.ref a), .val (.int (Int32.ofNat n)), .val (.int c), .val (.int (Int32.ofNat f))] [(.int (-1 : Int32))] rfl ?_
              have hno : ∀ i, f ≤ i → ([x0, x1, x2, x3].take n)[i]? ≠ some c := fun i hi => by
                by_cases hj4 : i < 4
                · obtain rfl | rfl | rfl | rfl : i = 0 ∨ i = 1 ∨ i = 2 ∨ i = 3 := by omega
                  · exact N0 hi
                  · exact N1 hi
                  · exact N2 hi
                  · exact N3 hi
                · rw [List.getElem?_eq_none (Nat.le_trans (by rw [List.length_take]; exact Nat.min_le_right _ _) (Nat.le_of_not_lt hj4))]; exact fun z => nomatch z
              exact Wp.retI ok_fnd (t := .int) rfl (by decide) rfl rfl rfl ⟨by rw [ix_none hno], rfl⟩
            · replace ha3 : ¬ (3 : Int32) < (Int32.ofNat f) := ha3
              have g3 : f ≤ 3 := Nat.le_of_not_lt fun z => ha3 ((n_lt (i := 3) (by decide) (by omega)).mpr z)
              refine Wp.run ok_fnd 2 63 #[.val (.ref a), .val (.int (Int32.ofNat n)), .val (.int c), .val (.int (Int32.ofNat f))] [(.int (Int32.ofNat n)), (.int (3 : Int32))] rfl ?_
              refine Wp.icmp ok_fnd 75 rfl rfl (by decide) (by decide) (fun hb3 => ?_) (fun hb3 => ?_)
              · replace hb3 : ¬ (3 : Int32) < (Int32.ofNat n) := hb3
                have N3 : f ≤ 3 → ([x0, x1, x2, x3].take n)[3]? ≠ some c := fun _ => by
                  have z : n ≤ 3 := Nat.le_of_not_lt fun z => hb3 ((n_lt (i := 3) (by decide) (by omega)).mpr z)
                  rw [List.getElem?_eq_none (by rw [List.length_take]; omega)]; exact fun y => nomatch y
                refine Wp.run ok_fnd 1 76 #[.val (.ref a), .val (.int (Int32.ofNat n)), .val (.int c), .val (.int (Int32.ofNat f))] [(.int (-1 : Int32))] rfl ?_
                have hno : ∀ i, f ≤ i → ([x0, x1, x2, x3].take n)[i]? ≠ some c := fun i hi => by
                  by_cases hj4 : i < 4
                  · obtain rfl | rfl | rfl | rfl : i = 0 ∨ i = 1 ∨ i = 2 ∨ i = 3 := by omega
                    · exact N0 hi
                    · exact N1 hi
                    · exact N2 hi
                    · exact N3 hi
                  · rw [List.getElem?_eq_none (Nat.le_trans (by rw [List.length_take]; exact Nat.min_le_right _ _) (Nat.le_of_not_lt hj4))]; exact fun z => nomatch z
                exact Wp.retI ok_fnd (t := .int) rfl (by decide) rfl rfl rfl ⟨by rw [ix_none hno], rfl⟩
              · replace hb3 : (3 : Int32) < (Int32.ofNat n) := hb3
                have e3 : ([x0, x1, x2, x3].take n)[3]? = some x3 := by
                  have z : 3 < n := (n_lt (i := 3) (by decide) (by omega)).mp hb3
                  rw [List.getElem?_take_of_lt z]; rfl
                refine Wp.run ok_fnd 2 68 #[.val (.ref a), .val (.int (Int32.ofNat n)), .val (.int c), .val (.int (Int32.ofNat f))] [(.int (3 : Int32)), (.ref a)] rfl ?_
                refine Wp.aget ok_fnd A (i := 3) (v := (.int x3)) rfl rfl rfl rfl rfl ?_
                refine Wp.run ok_fnd 1 70 #[.val (.ref a), .val (.int (Int32.ofNat n)), .val (.int c), .val (.int (Int32.ofNat f))] [(.int c), (.int x3)] rfl ?_
                refine Wp.icmp ok_fnd 75 rfl rfl (by decide) (by decide) (fun hc3 => ?_) (fun hc3 => ?_)
                · replace hc3 : ¬ x3 = c := hc3
                  have N3 : f ≤ 3 → ([x0, x1, x2, x3].take n)[3]? ≠ some c := fun _ => by rw [e3]; exact fun y => hc3 (Option.some.inj y)
                  refine Wp.run ok_fnd 1 76 #[.val (.ref a), .val (.int (Int32.ofNat n)), .val (.int c), .val (.int (Int32.ofNat f))] [(.int (-1 : Int32))] rfl ?_
                  have hno : ∀ i, f ≤ i → ([x0, x1, x2, x3].take n)[i]? ≠ some c := fun i hi => by
                    by_cases hj4 : i < 4
                    · obtain rfl | rfl | rfl | rfl : i = 0 ∨ i = 1 ∨ i = 2 ∨ i = 3 := by omega
                      · exact N0 hi
                      · exact N1 hi
                      · exact N2 hi
                      · exact N3 hi
                    · rw [List.getElem?_eq_none (Nat.le_trans (by rw [List.length_take]; exact Nat.min_le_right _ _) (Nat.le_of_not_lt hj4))]; exact fun z => nomatch z
                  exact Wp.retI ok_fnd (t := .int) rfl (by decide) rfl rfl rfl ⟨by rw [ix_none hno], rfl⟩
                · replace hc3 : x3 = c := hc3
                  have hno : ∀ i, f ≤ i → i < 3 → ([x0, x1, x2, x3].take n)[i]? ≠ some c := fun i h1 h2 => by
                    obtain rfl | rfl | rfl : i = 0 ∨ i = 1 ∨ i = 2 := by omega
                    · exact N0 h1
                    · exact N1 h1
                    · exact N2 h1
                  refine Wp.run ok_fnd 1 74 #[.val (.ref a), .val (.int (Int32.ofNat n)), .val (.int c), .val (.int (Int32.ofNat f))] [(.int (3 : Int32))] rfl ?_
                  exact Wp.retI ok_fnd (t := .int) rfl (by decide) rfl rfl rfl ⟨by rw [ix_hit g3 (by rw [e3, hc3]) hno]; rfl, rfl⟩
          · replace hc2 : x2 = c := hc2
            have hno : ∀ i, f ≤ i → i < 2 → ([x0, x1, x2, x3].take n)[i]? ≠ some c := fun i h1 h2 => by
              obtain rfl | rfl : i = 0 ∨ i = 1 := by omega
              · exact N0 h1
              · exact N1 h1
            refine Wp.run ok_fnd 1 55 #[.val (.ref a), .val (.int (Int32.ofNat n)), .val (.int c), .val (.int (Int32.ofNat f))] [(.int (2 : Int32))] rfl ?_
            exact Wp.retI ok_fnd (t := .int) rfl (by decide) rfl rfl rfl ⟨by rw [ix_hit g2 (by rw [e2, hc2]) hno]; rfl, rfl⟩
    · replace ha1 : ¬ (1 : Int32) < (Int32.ofNat f) := ha1
      have g1 : f ≤ 1 := Nat.le_of_not_lt fun z => ha1 ((n_lt (i := 1) (by decide) (by omega)).mpr z)
      refine Wp.run ok_fnd 2 25 #[.val (.ref a), .val (.int (Int32.ofNat n)), .val (.int c), .val (.int (Int32.ofNat f))] [(.int (Int32.ofNat n)), (.int (1 : Int32))] rfl ?_
      refine Wp.icmp ok_fnd 37 rfl rfl (by decide) (by decide) (fun hb1 => ?_) (fun hb1 => ?_)
      · replace hb1 : ¬ (1 : Int32) < (Int32.ofNat n) := hb1
        have N1 : f ≤ 1 → ([x0, x1, x2, x3].take n)[1]? ≠ some c := fun _ => by
          have z : n ≤ 1 := Nat.le_of_not_lt fun z => hb1 ((n_lt (i := 1) (by decide) (by omega)).mpr z)
          rw [List.getElem?_eq_none (by rw [List.length_take]; omega)]; exact fun y => nomatch y
        refine Wp.run ok_fnd 2 39 #[.val (.ref a), .val (.int (Int32.ofNat n)), .val (.int c), .val (.int (Int32.ofNat f))] [(.int (2 : Int32)), (.int (Int32.ofNat f))] rfl ?_
        refine Wp.icmp ok_fnd 56 rfl rfl (by decide) (by decide) (fun ha2 => ?_) (fun ha2 => ?_)
        · replace ha2 : (2 : Int32) < (Int32.ofNat f) := ha2
          have N2 : f ≤ 2 → ([x0, x1, x2, x3].take n)[2]? ≠ some c := fun z => absurd ((n_lt (i := 2) (by decide) (by omega)).mp ha2) (by omega)
          refine Wp.run ok_fnd 2 58 #[.val (.ref a), .val (.int (Int32.ofNat n)), .val (.int c), .val (.int (Int32.ofNat f))] [(.int (3 : Int32)), (.int (Int32.ofNat f))] rfl ?_
          refine Wp.icmp ok_fnd 75 rfl rfl (by decide) (by decide) (fun ha3 => ?_) (fun ha3 => ?_)
          · replace ha3 : (3 : Int32) < (Int32.ofNat f) := ha3
            have N3 : f ≤ 3 → ([x0, x1, x2, x3].take n)[3]? ≠ some c := fun z => absurd ((n_lt (i := 3) (by decide) (by omega)).mp ha3) (by omega)
            refine Wp.run ok_fnd 1 76 #[.val (.ref a), .val (.int (Int32.ofNat n)), .val (.int c), .val (.int (Int32.ofNat f))] [(.int (-1 : Int32))] rfl ?_
            have hno : ∀ i, f ≤ i → ([x0, x1, x2, x3].take n)[i]? ≠ some c := fun i hi => by
              by_cases hj4 : i < 4
              · obtain rfl | rfl | rfl | rfl : i = 0 ∨ i = 1 ∨ i = 2 ∨ i = 3 := by omega
                · exact N0 hi
                · exact N1 hi
                · exact N2 hi
                · exact N3 hi
              · rw [List.getElem?_eq_none (Nat.le_trans (by rw [List.length_take]; exact Nat.min_le_right _ _) (Nat.le_of_not_lt hj4))]; exact fun z => nomatch z
            exact Wp.retI ok_fnd (t := .int) rfl (by decide) rfl rfl rfl ⟨by rw [ix_none hno], rfl⟩
          · replace ha3 : ¬ (3 : Int32) < (Int32.ofNat f) := ha3
            have g3 : f ≤ 3 := Nat.le_of_not_lt fun z => ha3 ((n_lt (i := 3) (by decide) (by omega)).mpr z)
            refine Wp.run ok_fnd 2 63 #[.val (.ref a), .val (.int (Int32.ofNat n)), .val (.int c), .val (.int (Int32.ofNat f))] [(.int (Int32.ofNat n)), (.int (3 : Int32))] rfl ?_
            refine Wp.icmp ok_fnd 75 rfl rfl (by decide) (by decide) (fun hb3 => ?_) (fun hb3 => ?_)
            · replace hb3 : ¬ (3 : Int32) < (Int32.ofNat n) := hb3
              have N3 : f ≤ 3 → ([x0, x1, x2, x3].take n)[3]? ≠ some c := fun _ => by
                have z : n ≤ 3 := Nat.le_of_not_lt fun z => hb3 ((n_lt (i := 3) (by decide) (by omega)).mpr z)
                rw [List.getElem?_eq_none (by rw [List.length_take]; omega)]; exact fun y => nomatch y
              refine Wp.run ok_fnd 1 76 #[.val (.ref a), .val (.int (Int32.ofNat n)), .val (.int c), .val (.int (Int32.ofNat f))] [(.int (-1 : Int32))] rfl ?_
              have hno : ∀ i, f ≤ i → ([x0, x1, x2, x3].take n)[i]? ≠ some c := fun i hi => by
                by_cases hj4 : i < 4
                · obtain rfl | rfl | rfl | rfl : i = 0 ∨ i = 1 ∨ i = 2 ∨ i = 3 := by omega
                  · exact N0 hi
                  · exact N1 hi
                  · exact N2 hi
                  · exact N3 hi
                · rw [List.getElem?_eq_none (Nat.le_trans (by rw [List.length_take]; exact Nat.min_le_right _ _) (Nat.le_of_not_lt hj4))]; exact fun z => nomatch z
              exact Wp.retI ok_fnd (t := .int) rfl (by decide) rfl rfl rfl ⟨by rw [ix_none hno], rfl⟩
            · replace hb3 : (3 : Int32) < (Int32.ofNat n) := hb3
              have e3 : ([x0, x1, x2, x3].take n)[3]? = some x3 := by
                have z : 3 < n := (n_lt (i := 3) (by decide) (by omega)).mp hb3
                rw [List.getElem?_take_of_lt z]; rfl
              refine Wp.run ok_fnd 2 68 #[.val (.ref a), .val (.int (Int32.ofNat n)), .val (.int c), .val (.int (Int32.ofNat f))] [(.int (3 : Int32)), (.ref a)] rfl ?_
              refine Wp.aget ok_fnd A (i := 3) (v := (.int x3)) rfl rfl rfl rfl rfl ?_
              refine Wp.run ok_fnd 1 70 #[.val (.ref a), .val (.int (Int32.ofNat n)), .val (.int c), .val (.int (Int32.ofNat f))] [(.int c), (.int x3)] rfl ?_
              refine Wp.icmp ok_fnd 75 rfl rfl (by decide) (by decide) (fun hc3 => ?_) (fun hc3 => ?_)
              · replace hc3 : ¬ x3 = c := hc3
                have N3 : f ≤ 3 → ([x0, x1, x2, x3].take n)[3]? ≠ some c := fun _ => by rw [e3]; exact fun y => hc3 (Option.some.inj y)
                refine Wp.run ok_fnd 1 76 #[.val (.ref a), .val (.int (Int32.ofNat n)), .val (.int c), .val (.int (Int32.ofNat f))] [(.int (-1 : Int32))] rfl ?_
                have hno : ∀ i, f ≤ i → ([x0, x1, x2, x3].take n)[i]? ≠ some c := fun i hi => by
                  by_cases hj4 : i < 4
                  · obtain rfl | rfl | rfl | rfl : i = 0 ∨ i = 1 ∨ i = 2 ∨ i = 3 := by omega
                    · exact N0 hi
                    · exact N1 hi
                    · exact N2 hi
                    · exact N3 hi
                  · rw [List.getElem?_eq_none (Nat.le_trans (by rw [List.length_take]; exact Nat.min_le_right _ _) (Nat.le_of_not_lt hj4))]; exact fun z => nomatch z
                exact Wp.retI ok_fnd (t := .int) rfl (by decide) rfl rfl rfl ⟨by rw [ix_none hno], rfl⟩
              · replace hc3 : x3 = c := hc3
                have hno : ∀ i, f ≤ i → i < 3 → ([x0, x1, x2, x3].take n)[i]? ≠ some c := fun i h1 h2 => by
                  obtain rfl | rfl | rfl : i = 0 ∨ i = 1 ∨ i = 2 := by omega
                  · exact N0 h1
                  · exact N1 h1
                  · exact N2 h1
                refine Wp.run ok_fnd 1 74 #[.val (.ref a), .val (.int (Int32.ofNat n)), .val (.int c), .val (.int (Int32.ofNat f))] [(.int (3 : Int32))] rfl ?_
                exact Wp.retI ok_fnd (t := .int) rfl (by decide) rfl rfl rfl ⟨by rw [ix_hit g3 (by rw [e3, hc3]) hno]; rfl, rfl⟩
        · replace ha2 : ¬ (2 : Int32) < (Int32.ofNat f) := ha2
          have g2 : f ≤ 2 := Nat.le_of_not_lt fun z => ha2 ((n_lt (i := 2) (by decide) (by omega)).mpr z)
          refine Wp.run ok_fnd 2 44 #[.val (.ref a), .val (.int (Int32.ofNat n)), .val (.int c), .val (.int (Int32.ofNat f))] [(.int (Int32.ofNat n)), (.int (2 : Int32))] rfl ?_
          refine Wp.icmp ok_fnd 56 rfl rfl (by decide) (by decide) (fun hb2 => ?_) (fun hb2 => ?_)
          · replace hb2 : ¬ (2 : Int32) < (Int32.ofNat n) := hb2
            have N2 : f ≤ 2 → ([x0, x1, x2, x3].take n)[2]? ≠ some c := fun _ => by
              have z : n ≤ 2 := Nat.le_of_not_lt fun z => hb2 ((n_lt (i := 2) (by decide) (by omega)).mpr z)
              rw [List.getElem?_eq_none (by rw [List.length_take]; omega)]; exact fun y => nomatch y
            refine Wp.run ok_fnd 2 58 #[.val (.ref a), .val (.int (Int32.ofNat n)), .val (.int c), .val (.int (Int32.ofNat f))] [(.int (3 : Int32)), (.int (Int32.ofNat f))] rfl ?_
            refine Wp.icmp ok_fnd 75 rfl rfl (by decide) (by decide) (fun ha3 => ?_) (fun ha3 => ?_)
            · replace ha3 : (3 : Int32) < (Int32.ofNat f) := ha3
              have N3 : f ≤ 3 → ([x0, x1, x2, x3].take n)[3]? ≠ some c := fun z => absurd ((n_lt (i := 3) (by decide) (by omega)).mp ha3) (by omega)
              refine Wp.run ok_fnd 1 76 #[.val (.ref a), .val (.int (Int32.ofNat n)), .val (.int c), .val (.int (Int32.ofNat f))] [(.int (-1 : Int32))] rfl ?_
              have hno : ∀ i, f ≤ i → ([x0, x1, x2, x3].take n)[i]? ≠ some c := fun i hi => by
                by_cases hj4 : i < 4
                · obtain rfl | rfl | rfl | rfl : i = 0 ∨ i = 1 ∨ i = 2 ∨ i = 3 := by omega
                  · exact N0 hi
                  · exact N1 hi
                  · exact N2 hi
                  · exact N3 hi
                · rw [List.getElem?_eq_none (Nat.le_trans (by rw [List.length_take]; exact Nat.min_le_right _ _) (Nat.le_of_not_lt hj4))]; exact fun z => nomatch z
              exact Wp.retI ok_fnd (t := .int) rfl (by decide) rfl rfl rfl ⟨by rw [ix_none hno], rfl⟩
            · replace ha3 : ¬ (3 : Int32) < (Int32.ofNat f) := ha3
              have g3 : f ≤ 3 := Nat.le_of_not_lt fun z => ha3 ((n_lt (i := 3) (by decide) (by omega)).mpr z)
              refine Wp.run ok_fnd 2 63 #[.val (.ref a), .val (.int (Int32.ofNat n)), .val (.int c), .val (.int (Int32.ofNat f))] [(.int (Int32.ofNat n)), (.int (3 : Int32))] rfl ?_
              refine Wp.icmp ok_fnd 75 rfl rfl (by decide) (by decide) (fun hb3 => ?_) (fun hb3 => ?_)
              · replace hb3 : ¬ (3 : Int32) < (Int32.ofNat n) := hb3
                have N3 : f ≤ 3 → ([x0, x1, x2, x3].take n)[3]? ≠ some c := fun _ => by
                  have z : n ≤ 3 := Nat.le_of_not_lt fun z => hb3 ((n_lt (i := 3) (by decide) (by omega)).mpr z)
                  rw [List.getElem?_eq_none (by rw [List.length_take]; omega)]; exact fun y => nomatch y
                refine Wp.run ok_fnd 1 76 #[.val (.ref a), .val (.int (Int32.ofNat n)), .val (.int c), .val (.int (Int32.ofNat f))] [(.int (-1 : Int32))] rfl ?_
                have hno : ∀ i, f ≤ i → ([x0, x1, x2, x3].take n)[i]? ≠ some c := fun i hi => by
                  by_cases hj4 : i < 4
                  · obtain rfl | rfl | rfl | rfl : i = 0 ∨ i = 1 ∨ i = 2 ∨ i = 3 := by omega
                    · exact N0 hi
                    · exact N1 hi
                    · exact N2 hi
                    · exact N3 hi
                  · rw [List.getElem?_eq_none (Nat.le_trans (by rw [List.length_take]; exact Nat.min_le_right _ _) (Nat.le_of_not_lt hj4))]; exact fun z => nomatch z
                exact Wp.retI ok_fnd (t := .int) rfl (by decide) rfl rfl rfl ⟨by rw [ix_none hno], rfl⟩
              · replace hb3 : (3 : Int32) < (Int32.ofNat n) := hb3
                have e3 : ([x0, x1, x2, x3].take n)[3]? = some x3 := by
                  have z : 3 < n := (n_lt (i := 3) (by decide) (by omega)).mp hb3
                  rw [List.getElem?_take_of_lt z]; rfl
                refine Wp.run ok_fnd 2 68 #[.val (.ref a), .val (.int (Int32.ofNat n)), .val (.int c), .val (.int (Int32.ofNat f))] [(.int (3 : Int32)), (.ref a)] rfl ?_
                refine Wp.aget ok_fnd A (i := 3) (v := (.int x3)) rfl rfl rfl rfl rfl ?_
                refine Wp.run ok_fnd 1 70 #[.val (.ref a), .val (.int (Int32.ofNat n)), .val (.int c), .val (.int (Int32.ofNat f))] [(.int c), (.int x3)] rfl ?_
                refine Wp.icmp ok_fnd 75 rfl rfl (by decide) (by decide) (fun hc3 => ?_) (fun hc3 => ?_)
                · replace hc3 : ¬ x3 = c := hc3
                  have N3 : f ≤ 3 → ([x0, x1, x2, x3].take n)[3]? ≠ some c := fun _ => by rw [e3]; exact fun y => hc3 (Option.some.inj y)
                  refine Wp.run ok_fnd 1 76 #[.val (.ref a), .val (.int (Int32.ofNat n)), .val (.int c), .val (.int (Int32.ofNat f))] [(.int (-1 : Int32))] rfl ?_
                  have hno : ∀ i, f ≤ i → ([x0, x1, x2, x3].take n)[i]? ≠ some c := fun i hi => by
                    by_cases hj4 : i < 4
                    · obtain rfl | rfl | rfl | rfl : i = 0 ∨ i = 1 ∨ i = 2 ∨ i = 3 := by omega
                      · exact N0 hi
                      · exact N1 hi
                      · exact N2 hi
                      · exact N3 hi
                    · rw [List.getElem?_eq_none (Nat.le_trans (by rw [List.length_take]; exact Nat.min_le_right _ _) (Nat.le_of_not_lt hj4))]; exact fun z => nomatch z
                  exact Wp.retI ok_fnd (t := .int) rfl (by decide) rfl rfl rfl ⟨by rw [ix_none hno], rfl⟩
                · replace hc3 : x3 = c := hc3
                  have hno : ∀ i, f ≤ i → i < 3 → ([x0, x1, x2, x3].take n)[i]? ≠ some c := fun i h1 h2 => by
                    obtain rfl | rfl | rfl : i = 0 ∨ i = 1 ∨ i = 2 := by omega
                    · exact N0 h1
                    · exact N1 h1
                    · exact N2 h1
                  refine Wp.run ok_fnd 1 74 #[.val (.ref a), .val (.int (Int32.ofNat n)), .val (.int c), .val (.int (Int32.ofNat f))] [(.int (3 : Int32))] rfl ?_
                  exact Wp.retI ok_fnd (t := .int) rfl (by decide) rfl rfl rfl ⟨by rw [ix_hit g3 (by rw [e3, hc3]) hno]; rfl, rfl⟩
          · replace hb2 : (2 : Int32) < (Int32.ofNat n) := hb2
            have e2 : ([x0, x1, x2, x3].take n)[2]? = some x2 := by
              have z : 2 < n := (n_lt (i := 2) (by decide) (by omega)).mp hb2
              rw [List.getElem?_take_of_lt z]; rfl
            refine Wp.run ok_fnd 2 49 #[.val (.ref a), .val (.int (Int32.ofNat n)), .val (.int c), .val (.int (Int32.ofNat f))] [(.int (2 : Int32)), (.ref a)] rfl ?_
            refine Wp.aget ok_fnd A (i := 2) (v := (.int x2)) rfl rfl rfl rfl rfl ?_
            refine Wp.run ok_fnd 1 51 #[.val (.ref a), .val (.int (Int32.ofNat n)), .val (.int c), .val (.int (Int32.ofNat f))] [(.int c), (.int x2)] rfl ?_
            refine Wp.icmp ok_fnd 56 rfl rfl (by decide) (by decide) (fun hc2 => ?_) (fun hc2 => ?_)
            · replace hc2 : ¬ x2 = c := hc2
              have N2 : f ≤ 2 → ([x0, x1, x2, x3].take n)[2]? ≠ some c := fun _ => by rw [e2]; exact fun y => hc2 (Option.some.inj y)
              refine Wp.run ok_fnd 2 58 #[.val (.ref a), .val (.int (Int32.ofNat n)), .val (.int c), .val (.int (Int32.ofNat f))] [(.int (3 : Int32)), (.int (Int32.ofNat f))] rfl ?_
              refine Wp.icmp ok_fnd 75 rfl rfl (by decide) (by decide) (fun ha3 => ?_) (fun ha3 => ?_)
              · replace ha3 : (3 : Int32) < (Int32.ofNat f) := ha3
                have N3 : f ≤ 3 → ([x0, x1, x2, x3].take n)[3]? ≠ some c := fun z => absurd ((n_lt (i := 3) (by decide) (by omega)).mp ha3) (by omega)
                refine Wp.run ok_fnd 1 76 #[.val (.ref a), .val (.int (Int32.ofNat n)), .val (.int c), .val (.int (Int32.ofNat f))] [(.int (-1 : Int32))] rfl ?_
                have hno : ∀ i, f ≤ i → ([x0, x1, x2, x3].take n)[i]? ≠ some c := fun i hi => by
                  by_cases hj4 : i < 4
                  · obtain rfl | rfl | rfl | rfl : i = 0 ∨ i = 1 ∨ i = 2 ∨ i = 3 := by omega
                    · exact N0 hi
                    · exact N1 hi
                    · exact N2 hi
                    · exact N3 hi
                  · rw [List.getElem?_eq_none (Nat.le_trans (by rw [List.length_take]; exact Nat.min_le_right _ _) (Nat.le_of_not_lt hj4))]; exact fun z => nomatch z
                exact Wp.retI ok_fnd (t := .int) rfl (by decide) rfl rfl rfl ⟨by rw [ix_none hno], rfl⟩
              · replace ha3 : ¬ (3 : Int32) < (Int32.ofNat f) := ha3
                have g3 : f ≤ 3 := Nat.le_of_not_lt fun z => ha3 ((n_lt (i := 3) (by decide) (by omega)).mpr z)
                refine Wp.run ok_fnd 2 63 #[.val (.ref a), .val (.int (Int32.ofNat n)), .val (.int c), .val (.int (Int32.ofNat f))] [(.int (Int32.ofNat n)), (.int (3 : Int32))] rfl ?_
                refine Wp.icmp ok_fnd 75 rfl rfl (by decide) (by decide) (fun hb3 => ?_) (fun hb3 => ?_)
                · replace hb3 : ¬ (3 : Int32) < (Int32.ofNat n) := hb3
                  have N3 : f ≤ 3 → ([x0, x1, x2, x3].take n)[3]? ≠ some c := fun _ => by
                    have z : n ≤ 3 := Nat.le_of_not_lt fun z => hb3 ((n_lt (i := 3) (by decide) (by omega)).mpr z)
                    rw [List.getElem?_eq_none (by rw [List.length_take]; omega)]; exact fun y => nomatch y
                  refine Wp.run ok_fnd 1 76 #[.val (.ref a), .val (.int (Int32.ofNat n)), .val (.int c), .val (.int (Int32.ofNat f))] [(.int (-1 : Int32))] rfl ?_
                  have hno : ∀ i, f ≤ i → ([x0, x1, x2, x3].take n)[i]? ≠ some c := fun i hi => by
                    by_cases hj4 : i < 4
                    · obtain rfl | rfl | rfl | rfl : i = 0 ∨ i = 1 ∨ i = 2 ∨ i = 3 := by omega
                      · exact N0 hi
                      · exact N1 hi
                      · exact N2 hi
                      · exact N3 hi
                    · rw [List.getElem?_eq_none (Nat.le_trans (by rw [List.length_take]; exact Nat.min_le_right _ _) (Nat.le_of_not_lt hj4))]; exact fun z => nomatch z
                  exact Wp.retI ok_fnd (t := .int) rfl (by decide) rfl rfl rfl ⟨by rw [ix_none hno], rfl⟩
                · replace hb3 : (3 : Int32) < (Int32.ofNat n) := hb3
                  have e3 : ([x0, x1, x2, x3].take n)[3]? = some x3 := by
                    have z : 3 < n := (n_lt (i := 3) (by decide) (by omega)).mp hb3
                    rw [List.getElem?_take_of_lt z]; rfl
                  refine Wp.run ok_fnd 2 68 #[.val (.ref a), .val (.int (Int32.ofNat n)), .val (.int c), .val (.int (Int32.ofNat f))] [(.int (3 : Int32)), (.ref a)] rfl ?_
                  refine Wp.aget ok_fnd A (i := 3) (v := (.int x3)) rfl rfl rfl rfl rfl ?_
                  refine Wp.run ok_fnd 1 70 #[.val (.ref a), .val (.int (Int32.ofNat n)), .val (.int c), .val (.int (Int32.ofNat f))] [(.int c), (.int x3)] rfl ?_
                  refine Wp.icmp ok_fnd 75 rfl rfl (by decide) (by decide) (fun hc3 => ?_) (fun hc3 => ?_)
                  · replace hc3 : ¬ x3 = c := hc3
                    have N3 : f ≤ 3 → ([x0, x1, x2, x3].take n)[3]? ≠ some c := fun _ => by rw [e3]; exact fun y => hc3 (Option.some.inj y)
                    refine Wp.run ok_fnd 1 76 #[.val (.ref a), .val (.int (Int32.ofNat n)), .val (.int c), .val (.int (Int32.ofNat f))] [(.int (-1 : Int32))] rfl ?_
                    have hno : ∀ i, f ≤ i → ([x0, x1, x2, x3].take n)[i]? ≠ some c := fun i hi => by
                      by_cases hj4 : i < 4
                      · obtain rfl | rfl | rfl | rfl : i = 0 ∨ i = 1 ∨ i = 2 ∨ i = 3 := by omega
                        · exact N0 hi
                        · exact N1 hi
                        · exact N2 hi
                        · exact N3 hi
                      · rw [List.getElem?_eq_none (Nat.le_trans (by rw [List.length_take]; exact Nat.min_le_right _ _) (Nat.le_of_not_lt hj4))]; exact fun z => nomatch z
                    exact Wp.retI ok_fnd (t := .int) rfl (by decide) rfl rfl rfl ⟨by rw [ix_none hno], rfl⟩
                  · replace hc3 : x3 = c := hc3
                    have hno : ∀ i, f ≤ i → i < 3 → ([x0, x1, x2, x3].take n)[i]? ≠ some c := fun i h1 h2 => by
                      obtain rfl | rfl | rfl : i = 0 ∨ i = 1 ∨ i = 2 := by omega
                      · exact N0 h1
                      · exact N1 h1
                      · exact N2 h1
                    refine Wp.run ok_fnd 1 74 #[.val (.ref a), .val (.int (Int32.ofNat n)), .val (.int c), .val (.int (Int32.ofNat f))] [(.int (3 : Int32))] rfl ?_
                    exact Wp.retI ok_fnd (t := .int) rfl (by decide) rfl rfl rfl ⟨by rw [ix_hit g3 (by rw [e3, hc3]) hno]; rfl, rfl⟩
            · replace hc2 : x2 = c := hc2
              have hno : ∀ i, f ≤ i → i < 2 → ([x0, x1, x2, x3].take n)[i]? ≠ some c := fun i h1 h2 => by
                obtain rfl | rfl : i = 0 ∨ i = 1 := by omega
                · exact N0 h1
                · exact N1 h1
              refine Wp.run ok_fnd 1 55 #[.val (.ref a), .val (.int (Int32.ofNat n)), .val (.int c), .val (.int (Int32.ofNat f))] [(.int (2 : Int32))] rfl ?_
              exact Wp.retI ok_fnd (t := .int) rfl (by decide) rfl rfl rfl ⟨by rw [ix_hit g2 (by rw [e2, hc2]) hno]; rfl, rfl⟩
      · replace hb1 : (1 : Int32) < (Int32.ofNat n) := hb1
        have e1 : ([x0, x1, x2, x3].take n)[1]? = some x1 := by
          have z : 1 < n := (n_lt (i := 1) (by decide) (by omega)).mp hb1
          rw [List.getElem?_take_of_lt z]; rfl
        refine Wp.run ok_fnd 2 30 #[.val (.ref a), .val (.int (Int32.ofNat n)), .val (.int c), .val (.int (Int32.ofNat f))] [(.int (1 : Int32)), (.ref a)] rfl ?_
        refine Wp.aget ok_fnd A (i := 1) (v := (.int x1)) rfl rfl rfl rfl rfl ?_
        refine Wp.run ok_fnd 1 32 #[.val (.ref a), .val (.int (Int32.ofNat n)), .val (.int c), .val (.int (Int32.ofNat f))] [(.int c), (.int x1)] rfl ?_
        refine Wp.icmp ok_fnd 37 rfl rfl (by decide) (by decide) (fun hc1 => ?_) (fun hc1 => ?_)
        · replace hc1 : ¬ x1 = c := hc1
          have N1 : f ≤ 1 → ([x0, x1, x2, x3].take n)[1]? ≠ some c := fun _ => by rw [e1]; exact fun y => hc1 (Option.some.inj y)
          refine Wp.run ok_fnd 2 39 #[.val (.ref a), .val (.int (Int32.ofNat n)), .val (.int c), .val (.int (Int32.ofNat f))] [(.int (2 : Int32)), (.int (Int32.ofNat f))] rfl ?_
          refine Wp.icmp ok_fnd 56 rfl rfl (by decide) (by decide) (fun ha2 => ?_) (fun ha2 => ?_)
          · replace ha2 : (2 : Int32) < (Int32.ofNat f) := ha2
            have N2 : f ≤ 2 → ([x0, x1, x2, x3].take n)[2]? ≠ some c := fun z => absurd ((n_lt (i := 2) (by decide) (by omega)).mp ha2) (by omega)
            refine Wp.run ok_fnd 2 58 #[.val (.ref a), .val (.int (Int32.ofNat n)), .val (.int c), .val (.int (Int32.ofNat f))] [(.int (3 : Int32)), (.int (Int32.ofNat f))] rfl ?_
            refine Wp.icmp ok_fnd 75 rfl rfl (by decide) (by decide) (fun ha3 => ?_) (fun ha3 => ?_)
            · replace ha3 : (3 : Int32) < (Int32.ofNat f) := ha3
              have N3 : f ≤ 3 → ([x0, x1, x2, x3].take n)[3]? ≠ some c := fun z => absurd ((n_lt (i := 3) (by decide) (by omega)).mp ha3) (by omega)
              refine Wp.run ok_fnd 1 76 #[.val (.ref a), .val (.int (Int32.ofNat n)), .val (.int c), .val (.int (Int32.ofNat f))] [(.int (-1 : Int32))] rfl ?_
              have hno : ∀ i, f ≤ i → ([x0, x1, x2, x3].take n)[i]? ≠ some c := fun i hi => by
                by_cases hj4 : i < 4
                · obtain rfl | rfl | rfl | rfl : i = 0 ∨ i = 1 ∨ i = 2 ∨ i = 3 := by omega
                  · exact N0 hi
                  · exact N1 hi
                  · exact N2 hi
                  · exact N3 hi
                · rw [List.getElem?_eq_none (Nat.le_trans (by rw [List.length_take]; exact Nat.min_le_right _ _) (Nat.le_of_not_lt hj4))]; exact fun z => nomatch z
              exact Wp.retI ok_fnd (t := .int) rfl (by decide) rfl rfl rfl ⟨by rw [ix_none hno], rfl⟩
            · replace ha3 : ¬ (3 : Int32) < (Int32.ofNat f) := ha3
              have g3 : f ≤ 3 := Nat.le_of_not_lt fun z => ha3 ((n_lt (i := 3) (by decide) (by omega)).mpr z)
              refine Wp.run ok_fnd 2 63 #[.val (.ref a), .val (.int (Int32.ofNat n)), .val (.int c), .val (.int (Int32.ofNat f))] [(.int (Int32.ofNat n)), (.int (3 : Int32))] rfl ?_
              refine Wp.icmp ok_fnd 75 rfl rfl (by decide) (by decide) (fun hb3 => ?_) (fun hb3 => ?_)
              · replace hb3 : ¬ (3 : Int32) < (Int32.ofNat n) := hb3
                have N3 : f ≤ 3 → ([x0, x1, x2, x3].take n)[3]? ≠ some c := fun _ => by
                  have z : n ≤ 3 := Nat.le_of_not_lt fun z => hb3 ((n_lt (i := 3) (by decide) (by omega)).mpr z)
                  rw [List.getElem?_eq_none (by rw [List.length_take]; omega)]; exact fun y => nomatch y
                refine Wp.run ok_fnd 1 76 #[.val (.ref a), .val (.int (Int32.ofNat n)), .val (.int c), .val (.int (Int32.ofNat f))] [(.int (-1 : Int32))] rfl ?_
                have hno : ∀ i, f ≤ i → ([x0, x1, x2, x3].take n)[i]? ≠ some c := fun i hi => by
                  by_cases hj4 : i < 4
                  · obtain rfl | rfl | rfl | rfl : i = 0 ∨ i = 1 ∨ i = 2 ∨ i = 3 := by omega
                    · exact N0 hi
                    · exact N1 hi
                    · exact N2 hi
                    · exact N3 hi
                  · rw [List.getElem?_eq_none (Nat.le_trans (by rw [List.length_take]; exact Nat.min_le_right _ _) (Nat.le_of_not_lt hj4))]; exact fun z => nomatch z
                exact Wp.retI ok_fnd (t := .int) rfl (by decide) rfl rfl rfl ⟨by rw [ix_none hno], rfl⟩
              · replace hb3 : (3 : Int32) < (Int32.ofNat n) := hb3
                have e3 : ([x0, x1, x2, x3].take n)[3]? = some x3 := by
                  have z : 3 < n := (n_lt (i := 3) (by decide) (by omega)).mp hb3
                  rw [List.getElem?_take_of_lt z]; rfl
                refine Wp.run ok_fnd 2 68 #[.val (.ref a), .val (.int (Int32.ofNat n)), .val (.int c), .val (.int (Int32.ofNat f))] [(.int (3 : Int32)), (.ref a)] rfl ?_
                refine Wp.aget ok_fnd A (i := 3) (v := (.int x3)) rfl rfl rfl rfl rfl ?_
                refine Wp.run ok_fnd 1 70 #[.val (.ref a), .val (.int (Int32.ofNat n)), .val (.int c), .val (.int (Int32.ofNat f))] [(.int c), (.int x3)] rfl ?_
                refine Wp.icmp ok_fnd 75 rfl rfl (by decide) (by decide) (fun hc3 => ?_) (fun hc3 => ?_)
                · replace hc3 : ¬ x3 = c := hc3
                  have N3 : f ≤ 3 → ([x0, x1, x2, x3].take n)[3]? ≠ some c := fun _ => by rw [e3]; exact fun y => hc3 (Option.some.inj y)
                  refine Wp.run ok_fnd 1 76 #[.val (.ref a), .val (.int (Int32.ofNat n)), .val (.int c), .val (.int (Int32.ofNat f))] [(.int (-1 : Int32))] rfl ?_
                  have hno : ∀ i, f ≤ i → ([x0, x1, x2, x3].take n)[i]? ≠ some c := fun i hi => by
                    by_cases hj4 : i < 4
                    · obtain rfl | rfl | rfl | rfl : i = 0 ∨ i = 1 ∨ i = 2 ∨ i = 3 := by omega
                      · exact N0 hi
                      · exact N1 hi
                      · exact N2 hi
                      · exact N3 hi
                    · rw [List.getElem?_eq_none (Nat.le_trans (by rw [List.length_take]; exact Nat.min_le_right _ _) (Nat.le_of_not_lt hj4))]; exact fun z => nomatch z
                  exact Wp.retI ok_fnd (t := .int) rfl (by decide) rfl rfl rfl ⟨by rw [ix_none hno], rfl⟩
                · replace hc3 : x3 = c := hc3
                  have hno : ∀ i, f ≤ i → i < 3 → ([x0, x1, x2, x3].take n)[i]? ≠ some c := fun i h1 h2 => by
                    obtain rfl | rfl | rfl : i = 0 ∨ i = 1 ∨ i = 2 := by omega
                    · exact N0 h1
                    · exact N1 h1
                    · exact N2 h1
                  refine Wp.run ok_fnd 1 74 #[.val (.ref a), .val (.int (Int32.ofNat n)), .val (.int c), .val (.int (Int32.ofNat f))] [(.int (3 : Int32))] rfl ?_
                  exact Wp.retI ok_fnd (t := .int) rfl (by decide) rfl rfl rfl ⟨by rw [ix_hit g3 (by rw [e3, hc3]) hno]; rfl, rfl⟩
          · replace ha2 : ¬ (2 : Int32) < (Int32.ofNat f) := ha2
            have g2 : f ≤ 2 := Nat.le_of_not_lt fun z => ha2 ((n_lt (i := 2) (by decide) (by omega)).mpr z)
            refine Wp.run ok_fnd 2 44 #[.val (.ref a), .val (.int (Int32.ofNat n)), .val (.int c), .val (.int (Int32.ofNat f))] [(.int (Int32.ofNat n)), (.int (2 : Int32))] rfl ?_
            refine Wp.icmp ok_fnd 56 rfl rfl (by decide) (by decide) (fun hb2 => ?_) (fun hb2 => ?_)
            · replace hb2 : ¬ (2 : Int32) < (Int32.ofNat n) := hb2
              have N2 : f ≤ 2 → ([x0, x1, x2, x3].take n)[2]? ≠ some c := fun _ => by
                have z : n ≤ 2 := Nat.le_of_not_lt fun z => hb2 ((n_lt (i := 2) (by decide) (by omega)).mpr z)
                rw [List.getElem?_eq_none (by rw [List.length_take]; omega)]; exact fun y => nomatch y
              refine Wp.run ok_fnd 2 58 #[.val (.ref a), .val (.int (Int32.ofNat n)), .val (.int c), .val (.int (Int32.ofNat f))] [(.int (3 : Int32)), (.int (Int32.ofNat f))] rfl ?_
              refine Wp.icmp ok_fnd 75 rfl rfl (by decide) (by decide) (fun ha3 => ?_) (fun ha3 => ?_)
              · replace ha3 : (3 : Int32) < (Int32.ofNat f) := ha3
                have N3 : f ≤ 3 → ([x0, x1, x2, x3].take n)[3]? ≠ some c := fun z => absurd ((n_lt (i := 3) (by decide) (by omega)).mp ha3) (by omega)
                refine Wp.run ok_fnd 1 76 #[.val (.ref a), .val (.int (Int32.ofNat n)), .val (.int c), .val (.int (Int32.ofNat f))] [(.int (-1 : Int32))] rfl ?_
                have hno : ∀ i, f ≤ i → ([x0, x1, x2, x3].take n)[i]? ≠ some c := fun i hi => by
                  by_cases hj4 : i < 4
                  · obtain rfl | rfl | rfl | rfl : i = 0 ∨ i = 1 ∨ i = 2 ∨ i = 3 := by omega
                    · exact N0 hi
                    · exact N1 hi
                    · exact N2 hi
                    · exact N3 hi
                  · rw [List.getElem?_eq_none (Nat.le_trans (by rw [List.length_take]; exact Nat.min_le_right _ _) (Nat.le_of_not_lt hj4))]; exact fun z => nomatch z
                exact Wp.retI ok_fnd (t := .int) rfl (by decide) rfl rfl rfl ⟨by rw [ix_none hno], rfl⟩
              · replace ha3 : ¬ (3 : Int32) < (Int32.ofNat f) := ha3
                have g3 : f ≤ 3 := Nat.le_of_not_lt fun z => ha3 ((n_lt (i := 3) (by decide) (by omega)).mpr z)
                refine Wp.run ok_fnd 2 63 #[.val (.ref a), .val (.int (Int32.ofNat n)), .val (.int c), .val (.int (Int32.ofNat f))] [(.int (Int32.ofNat n)), (.int (3 : Int32))] rfl ?_
                refine Wp.icmp ok_fnd 75 rfl rfl (by decide) (by decide) (fun hb3 => ?_) (fun hb3 => ?_)
                · replace hb3 : ¬ (3 : Int32) < (Int32.ofNat n) := hb3
                  have N3 : f ≤ 3 → ([x0, x1, x2, x3].take n)[3]? ≠ some c := fun _ => by
                    have z : n ≤ 3 := Nat.le_of_not_lt fun z => hb3 ((n_lt (i := 3) (by decide) (by omega)).mpr z)
                    rw [List.getElem?_eq_none (by rw [List.length_take]; omega)]; exact fun y => nomatch y
                  refine Wp.run ok_fnd 1 76 #[.val (.ref a), .val (.int (Int32.ofNat n)), .val (.int c), .val (.int (Int32.ofNat f))] [(.int (-1 : Int32))] rfl ?_
                  have hno : ∀ i, f ≤ i → ([x0, x1, x2, x3].take n)[i]? ≠ some c := fun i hi => by
                    by_cases hj4 : i < 4
                    · obtain rfl | rfl | rfl | rfl : i = 0 ∨ i = 1 ∨ i = 2 ∨ i = 3 := by omega
                      · exact N0 hi
                      · exact N1 hi
                      · exact N2 hi
                      · exact N3 hi
                    · rw [List.getElem?_eq_none (Nat.le_trans (by rw [List.length_take]; exact Nat.min_le_right _ _) (Nat.le_of_not_lt hj4))]; exact fun z => nomatch z
                  exact Wp.retI ok_fnd (t := .int) rfl (by decide) rfl rfl rfl ⟨by rw [ix_none hno], rfl⟩
                · replace hb3 : (3 : Int32) < (Int32.ofNat n) := hb3
                  have e3 : ([x0, x1, x2, x3].take n)[3]? = some x3 := by
                    have z : 3 < n := (n_lt (i := 3) (by decide) (by omega)).mp hb3
                    rw [List.getElem?_take_of_lt z]; rfl
                  refine Wp.run ok_fnd 2 68 #[.val (.ref a), .val (.int (Int32.ofNat n)), .val (.int c), .val (.int (Int32.ofNat f))] [(.int (3 : Int32)), (.ref a)] rfl ?_
                  refine Wp.aget ok_fnd A (i := 3) (v := (.int x3)) rfl rfl rfl rfl rfl ?_
                  refine Wp.run ok_fnd 1 70 #[.val (.ref a), .val (.int (Int32.ofNat n)), .val (.int c), .val (.int (Int32.ofNat f))] [(.int c), (.int x3)] rfl ?_
                  refine Wp.icmp ok_fnd 75 rfl rfl (by decide) (by decide) (fun hc3 => ?_) (fun hc3 => ?_)
                  · replace hc3 : ¬ x3 = c := hc3
                    have N3 : f ≤ 3 → ([x0, x1, x2, x3].take n)[3]? ≠ some c := fun _ => by rw [e3]; exact fun y => hc3 (Option.some.inj y)
                    refine Wp.run ok_fnd 1 76 #[.val (.ref a), .val (.int (Int32.ofNat n)), .val (.int c), .val (.int (Int32.ofNat f))] [(.int (-1 : Int32))] rfl ?_
                    have hno : ∀ i, f ≤ i → ([x0, x1, x2, x3].take n)[i]? ≠ some c := fun i hi => by
                      by_cases hj4 : i < 4
                      · obtain rfl | rfl | rfl | rfl : i = 0 ∨ i = 1 ∨ i = 2 ∨ i = 3 := by omega
                        · exact N0 hi
                        · exact N1 hi
                        · exact N2 hi
                        · exact N3 hi
                      · rw [List.getElem?_eq_none (Nat.le_trans (by rw [List.length_take]; exact Nat.min_le_right _ _) (Nat.le_of_not_lt hj4))]; exact fun z => nomatch z
                    exact Wp.retI ok_fnd (t := .int) rfl (by decide) rfl rfl rfl ⟨by rw [ix_none hno], rfl⟩
                  · replace hc3 : x3 = c := hc3
                    have hno : ∀ i, f ≤ i → i < 3 → ([x0, x1, x2, x3].take n)[i]? ≠ some c := fun i h1 h2 => by
                      obtain rfl | rfl | rfl : i = 0 ∨ i = 1 ∨ i = 2 := by omega
                      · exact N0 h1
                      · exact N1 h1
                      · exact N2 h1
                    refine Wp.run ok_fnd 1 74 #[.val (.ref a), .val (.int (Int32.ofNat n)), .val (.int c), .val (.int (Int32.ofNat f))] [(.int (3 : Int32))] rfl ?_
                    exact Wp.retI ok_fnd (t := .int) rfl (by decide) rfl rfl rfl ⟨by rw [ix_hit g3 (by rw [e3, hc3]) hno]; rfl, rfl⟩
            · replace hb2 : (2 : Int32) < (Int32.ofNat n) := hb2
              have e2 : ([x0, x1, x2, x3].take n)[2]? = some x2 := by
                have z : 2 < n := (n_lt (i := 2) (by decide) (by omega)).mp hb2
                rw [List.getElem?_take_of_lt z]; rfl
              refine Wp.run ok_fnd 2 49 #[.val (.ref a), .val (.int (Int32.ofNat n)), .val (.int c), .val (.int (Int32.ofNat f))] [(.int (2 : Int32)), (.ref a)] rfl ?_
              refine Wp.aget ok_fnd A (i := 2) (v := (.int x2)) rfl rfl rfl rfl rfl ?_
              refine Wp.run ok_fnd 1 51 #[.val (.ref a), .val (.int (Int32.ofNat n)), .val (.int c), .val (.int (Int32.ofNat f))] [(.int c), (.int x2)] rfl ?_
              refine Wp.icmp ok_fnd 56 rfl rfl (by decide) (by decide) (fun hc2 => ?_) (fun hc2 => ?_)
              · replace hc2 : ¬ x2 = c := hc2
                have N2 : f ≤ 2 → ([x0, x1, x2, x3].take n)[2]? ≠ some c := fun _ => by rw [e2]; exact fun y => hc2 (Option.some.inj y)
                refine Wp.run ok_fnd 2 58 #[.val (.ref a), .val (.int (Int32.ofNat n)), .val (.int c), .val (.int (Int32.ofNat f))] [(.int (3 : Int32)), (.int (Int32.ofNat f))] rfl ?_
                refine Wp.icmp ok_fnd 75 rfl rfl (by decide) (by decide) (fun ha3 => ?_) (fun ha3 => ?_)
                · replace ha3 : (3 : Int32) < (Int32.ofNat f) := ha3
                  have N3 : f ≤ 3 → ([x0, x1, x2, x3].take n)[3]? ≠ some c := fun z => absurd ((n_lt (i := 3) (by decide) (by omega)).mp ha3) (by omega)
                  refine Wp.run ok_fnd 1 76 #[.val (.ref a), .val (.int (Int32.ofNat n)), .val (.int c), .val (.int (Int32.ofNat f))] [(.int (-1 : Int32))] rfl ?_
                  have hno : ∀ i, f ≤ i → ([x0, x1, x2, x3].take n)[i]? ≠ some c := fun i hi => by
                    by_cases hj4 : i < 4
                    · obtain rfl | rfl | rfl | rfl : i = 0 ∨ i = 1 ∨ i = 2 ∨ i = 3 := by omega
                      · exact N0 hi
                      · exact N1 hi
                      · exact N2 hi
                      · exact N3 hi
                    · rw [List.getElem?_eq_none (Nat.le_trans (by rw [List.length_take]; exact Nat.min_le_right _ _) (Nat.le_of_not_lt hj4))]; exact fun z => nomatch z
                  exact Wp.retI ok_fnd (t := .int) rfl (by decide) rfl rfl rfl ⟨by rw [ix_none hno], rfl⟩
                · replace ha3 : ¬ (3 : Int32) < (Int32.ofNat f) := ha3
                  have g3 : f ≤ 3 := Nat.le_of_not_lt fun z => ha3 ((n_lt (i := 3) (by decide) (by omega)).mpr z)
                  refine Wp.run ok_fnd 2 63 #[.val (.ref a), .val (.int (Int32.ofNat n)), .val (.int c), .val (.int (Int32.ofNat f))] [(.int (Int32.ofNat n)), (.int (3 : Int32))] rfl ?_
                  refine Wp.icmp ok_fnd 75 rfl rfl (by decide) (by decide) (fun hb3 => ?_) (fun hb3 => ?_)
                  · replace hb3 : ¬ (3 : Int32) < (Int32.ofNat n) := hb3
                    have N3 : f ≤ 3 → ([x0, x1, x2, x3].take n)[3]? ≠ some c := fun _ => by
                      have z : n ≤ 3 := Nat.le_of_not_lt fun z => hb3 ((n_lt (i := 3) (by decide) (by omega)).mpr z)
                      rw [List.getElem?_eq_none (by rw [List.length_take]; omega)]; exact fun y => nomatch y
                    refine Wp.run ok_fnd 1 76 #[.val (.ref a), .val (.int (Int32.ofNat n)), .val (.int c), .val (.int (Int32.ofNat f))] [(.int (-1 : Int32))] rfl ?_
                    have hno : ∀ i, f ≤ i → ([x0, x1, x2, x3].take n)[i]? ≠ some c := fun i hi => by
                      by_cases hj4 : i < 4
                      · obtain rfl | rfl | rfl | rfl : i = 0 ∨ i = 1 ∨ i = 2 ∨ i = 3 := by omega
                        · exact N0 hi
                        · exact N1 hi
                        · exact N2 hi
                        · exact N3 hi
                      · rw [List.getElem?_eq_none (Nat.le_trans (by rw [List.length_take]; exact Nat.min_le_right _ _) (Nat.le_of_not_lt hj4))]; exact fun z => nomatch z
                    exact Wp.retI ok_fnd (t := .int) rfl (by decide) rfl rfl rfl ⟨by rw [ix_none hno], rfl⟩
                  · replace hb3 : (3 : Int32) < (Int32.ofNat n) := hb3
                    have e3 : ([x0, x1, x2, x3].take n)[3]? = some x3 := by
                      have z : 3 < n := (n_lt (i := 3) (by decide) (by omega)).mp hb3
                      rw [List.getElem?_take_of_lt z]; rfl
                    refine Wp.run ok_fnd 2 68 #[.val (.ref a), .val (.int (Int32.ofNat n)), .val (.int c), .val (.int (Int32.ofNat f))] [(.int (3 : Int32)), (.ref a)] rfl ?_
                    refine Wp.aget ok_fnd A (i := 3) (v := (.int x3)) rfl rfl rfl rfl rfl ?_
                    refine Wp.run ok_fnd 1 70 #[.val (.ref a), .val (.int (Int32.ofNat n)), .val (.int c), .val (.int (Int32.ofNat f))] [(.int c), (.int x3)] rfl ?_
                    refine Wp.icmp ok_fnd 75 rfl rfl (by decide) (by decide) (fun hc3 => ?_) (fun hc3 => ?_)
                    · replace hc3 : ¬ x3 = c := hc3
                      have N3 : f ≤ 3 → ([x0, x1, x2, x3].take n)[3]? ≠ some c := fun _ => by rw [e3]; exact fun y => hc3 (Option.some.inj y)
                      refine Wp.run ok_fnd 1 76 #[.val (.ref a), .val (.int (Int32.ofNat n)), .val (.int c), .val (.int (Int32.ofNat f))] [(.int (-1 : Int32))] rfl ?_
                      have hno : ∀ i, f ≤ i → ([x0, x1, x2, x3].take n)[i]? ≠ some c := fun i hi => by
                        by_cases hj4 : i < 4
                        · obtain rfl | rfl | rfl | rfl : i = 0 ∨ i = 1 ∨ i = 2 ∨ i = 3 := by omega
                          · exact N0 hi
                          · exact N1 hi
                          · exact N2 hi
                          · exact N3 hi
                        · rw [List.getElem?_eq_none (Nat.le_trans (by rw [List.length_take]; exact Nat.min_le_right _ _) (Nat.le_of_not_lt hj4))]; exact fun z => nomatch z
                      exact Wp.retI ok_fnd (t := .int) rfl (by decide) rfl rfl rfl ⟨by rw [ix_none hno], rfl⟩
                    · replace hc3 : x3 = c := hc3
                      have hno : ∀ i, f ≤ i → i < 3 → ([x0, x1, x2, x3].take n)[i]? ≠ some c := fun i h1 h2 => by
                        obtain rfl | rfl | rfl : i = 0 ∨ i = 1 ∨ i = 2 := by omega
                        · exact N0 h1
                        · exact N1 h1
                        · exact N2 h1
                      refine Wp.run ok_fnd 1 74 #[.val (.ref a), .val (.int (Int32.ofNat n)), .val (.int c), .val (.int (Int32.ofNat f))] [(.int (3 : Int32))] rfl ?_
                      exact Wp.retI ok_fnd (t := .int) rfl (by decide) rfl rfl rfl ⟨by rw [ix_hit g3 (by rw [e3, hc3]) hno]; rfl, rfl⟩
              · replace hc2 : x2 = c := hc2
                have hno : ∀ i, f ≤ i → i < 2 → ([x0, x1, x2, x3].take n)[i]? ≠ some c := fun i h1 h2 => by
                  obtain rfl | rfl : i = 0 ∨ i = 1 := by omega
                  · exact N0 h1
                  · exact N1 h1
                refine Wp.run ok_fnd 1 55 #[.val (.ref a), .val (.int (Int32.ofNat n)), .val (.int c), .val (.int (Int32.ofNat f))] [(.int (2 : Int32))] rfl ?_
                exact Wp.retI ok_fnd (t := .int) rfl (by decide) rfl rfl rfl ⟨by rw [ix_hit g2 (by rw [e2, hc2]) hno]; rfl, rfl⟩
        · replace hc1 : x1 = c := hc1
          have hno : ∀ i, f ≤ i → i < 1 → ([x0, x1, x2, x3].take n)[i]? ≠ some c := fun i h1 h2 => by
            obtain rfl : i = 0 := by omega
            exact N0 h1
          refine Wp.run ok_fnd 1 36 #[.val (.ref a), .val (.int (Int32.ofNat n)), .val (.int c), .val (.int (Int32.ofNat f))] [(.int (1 : Int32))] rfl ?_
          exact Wp.retI ok_fnd (t := .int) rfl (by decide) rfl rfl rfl ⟨by rw [ix_hit g1 (by rw [e1, hc1]) hno]; rfl, rfl⟩
  · replace ha0 : ¬ (0 : Int32) < (Int32.ofNat f) := ha0
    have g0 : f ≤ 0 := Nat.le_of_not_lt fun z => ha0 ((n_lt (i := 0) (by decide) (by omega)).mpr z)
    refine Wp.run ok_fnd 2 6 #[.val (.ref a), .val (.int (Int32.ofNat n)), .val (.int c), .val (.int (Int32.ofNat f))] [(.int (Int32.ofNat n)), (.int (0 : Int32))] rfl ?_
    refine Wp.icmp ok_fnd 18 rfl rfl (by decide) (by decide) (fun hb0 => ?_) (fun hb0 => ?_)
    · replace hb0 : ¬ (0 : Int32) < (Int32.ofNat n) := hb0
      have N0 : f ≤ 0 → ([x0, x1, x2, x3].take n)[0]? ≠ some c := fun _ => by
        have z : n ≤ 0 := Nat.le_of_not_lt fun z => hb0 ((n_lt (i := 0) (by decide) (by omega)).mpr z)
        rw [List.getElem?_eq_none (by rw [List.length_take]; omega)]; exact fun y => nomatch y
      refine Wp.run ok_fnd 2 20 #[.val (.ref a), .val (.int (Int32.ofNat n)), .val (.int c), .val (.int (Int32.ofNat f))] [(.int (1 : Int32)), (.int (Int32.ofNat f))] rfl ?_
      refine Wp.icmp ok_fnd 37 rfl rfl (by decide) (by decide) (fun ha1 => ?_) (fun ha1 => ?_)
      · replace ha1 : (1 : Int32) < (Int32.ofNat f) := ha1
        have N1 : f ≤ 1 → ([x0, x1, x2, x3].take n)[1]? ≠ some c := fun z => absurd ((n_lt (i := 1) (by decide) (by omega)).mp ha1) (by omega)
        refine Wp.run ok_fnd 2 39 #[.val (.ref a), .val (.int (Int32.ofNat n)), .val (.int c), .val (.int (Int32.ofNat f))] [(.int (2 : Int32)), (.int (Int32.ofNat f))] rfl ?_
        refine Wp.icmp ok_fnd 56 rfl rfl (by decide) (by decide) (fun ha2 => ?_) (fun ha2 => ?_)
        · replace ha2 : (2 : Int32) < (Int32.ofNat f) := ha2
          have N2 : f ≤ 2 → ([x0, x1, x2, x3].take n)[2]? ≠ some c := fun z => absurd ((n_lt (i := 2) (by decide) (by omega)).mp ha2) (by omega)
          refine Wp.run ok_fnd 2 58 #[.val (.ref a), .val (.int (Int32.ofNat n)), .val (.int c), .val (.int (Int32.ofNat f))] [(.int (3 : Int32)), (.int (Int32.ofNat f))] rfl ?_
          refine Wp.icmp ok_fnd 75 rfl rfl (by decide) (by decide) (fun ha3 => ?_) (fun ha3 => ?_)
          · replace ha3 : (3 : Int32) < (Int32.ofNat f) := ha3
            have N3 : f ≤ 3 → ([x0, x1, x2, x3].take n)[3]? ≠ some c := fun z => absurd ((n_lt (i := 3) (by decide) (by omega)).mp ha3) (by omega)
            refine Wp.run ok_fnd 1 76 #[.val (.ref a), .val (.int (Int32.ofNat n)), .val (.int c), .val (.int (Int32.ofNat f))] [(.int (-1 : Int32))] rfl ?_
            have hno : ∀ i, f ≤ i → ([x0, x1, x2, x3].take n)[i]? ≠ some c := fun i hi => by
              by_cases hj4 : i < 4
              · obtain rfl | rfl | rfl | rfl : i = 0 ∨ i = 1 ∨ i = 2 ∨ i = 3 := by omega
                · exact N0 hi
                · exact N1 hi
                · exact N2 hi
                · exact N3 hi
              · rw [List.getElem?_eq_none (Nat.le_trans (by rw [List.length_take]; exact Nat.min_le_right _ _) (Nat.le_of_not_lt hj4))]; exact fun z => nomatch z
            exact Wp.retI ok_fnd (t := .int) rfl (by decide) rfl rfl rfl ⟨by rw [ix_none hno], rfl⟩
          · replace ha3 : ¬ (3 : Int32) < (Int32.ofNat f) := ha3
            have g3 : f ≤ 3 := Nat.le_of_not_lt fun z => ha3 ((n_lt (i := 3) (by decide) (by omega)).mpr z)
            refine Wp.run ok_fnd 2 63 #[.val (.ref a), .val (.int (Int32.ofNat n)), .val (.int c), .val (.int (Int32.ofNat f))] [(.int (Int32.ofNat n)), (.int (3 : Int32))] rfl ?_
            refine Wp.icmp ok_fnd 75 rfl rfl (by decide) (by decide) (fun hb3 => ?_) (fun hb3 => ?_)
            · replace hb3 : ¬ (3 : Int32) < (Int32.ofNat n) := hb3
              have N3 : f ≤ 3 → ([x0, x1, x2, x3].take n)[3]? ≠ some c := fun _ => by
                have z : n ≤ 3 := Nat.le_of_not_lt fun z => hb3 ((n_lt (i := 3) (by decide) (by omega)).mpr z)
                rw [List.getElem?_eq_none (by rw [List.length_take]; omega)]; exact fun y => nomatch y
              refine Wp.run ok_fnd 1 76 #[.val (.ref a), .val (.int (Int32.ofNat n)), .val (.int c), .val (.int (Int32.ofNat f))] [(.int (-1 : Int32))] rfl ?_
              have hno : ∀ i, f ≤ i → ([x0, x1, x2, x3].take n)[i]? ≠ some c := fun i hi => by
                by_cases hj4 : i < 4
                · obtain rfl | rfl | rfl | rfl : i = 0 ∨ i = 1 ∨ i = 2 ∨ i = 3 := by omega
                  · exact N0 hi
                  · exact N1 hi
                  · exact N2 hi
                  · exact N3 hi
                · rw [List.getElem?_eq_none (Nat.le_trans (by rw [List.length_take]; exact Nat.min_le_right _ _) (Nat.le_of_not_lt hj4))]; exact fun z => nomatch z
              exact Wp.retI ok_fnd (t := .int) rfl (by decide) rfl rfl rfl ⟨by rw [ix_none hno], rfl⟩
            · replace hb3 : (3 : Int32) < (Int32.ofNat n) := hb3
              have e3 : ([x0, x1, x2, x3].take n)[3]? = some x3 := by
                have z : 3 < n := (n_lt (i := 3) (by decide) (by omega)).mp hb3
                rw [List.getElem?_take_of_lt z]; rfl
              refine Wp.run ok_fnd 2 68 #[.val (.ref a), .val (.int (Int32.ofNat n)), .val (.int c), .val (.int (Int32.ofNat f))] [(.int (3 : Int32)), (.ref a)] rfl ?_
              refine Wp.aget ok_fnd A (i := 3) (v := (.int x3)) rfl rfl rfl rfl rfl ?_
              refine Wp.run ok_fnd 1 70 #[.val (.ref a), .val (.int (Int32.ofNat n)), .val (.int c), .val (.int (Int32.ofNat f))] [(.int c), (.int x3)] rfl ?_
              refine Wp.icmp ok_fnd 75 rfl rfl (by decide) (by decide) (fun hc3 => ?_) (fun hc3 => ?_)
              · replace hc3 : ¬ x3 = c := hc3
                have N3 : f ≤ 3 → ([x0, x1, x2, x3].take n)[3]? ≠ some c := fun _ => by rw [e3]; exact fun y => hc3 (Option.some.inj y)
                refine Wp.run ok_fnd 1 76 #[.val (.ref a), .val (.int (Int32.ofNat n)), .val (.int c), .val (.int (Int32.ofNat f))] [(.int (-1 : Int32))] rfl ?_
                have hno : ∀ i, f ≤ i → ([x0, x1, x2, x3].take n)[i]? ≠ some c := fun i hi => by
                  by_cases hj4 : i < 4
                  · obtain rfl | rfl | rfl | rfl : i = 0 ∨ i = 1 ∨ i = 2 ∨ i = 3 := by omega
                    · exact N0 hi
                    · exact N1 hi
                    · exact N2 hi
                    · exact N3 hi
                  · rw [List.getElem?_eq_none (Nat.le_trans (by rw [List.length_take]; exact Nat.min_le_right _ _) (Nat.le_of_not_lt hj4))]; exact fun z => nomatch z
                exact Wp.retI ok_fnd (t := .int) rfl (by decide) rfl rfl rfl ⟨by rw [ix_none hno], rfl⟩
              · replace hc3 : x3 = c := hc3
                have hno : ∀ i, f ≤ i → i < 3 → ([x0, x1, x2, x3].take n)[i]? ≠ some c := fun i h1 h2 => by
                  obtain rfl | rfl | rfl : i = 0 ∨ i = 1 ∨ i = 2 := by omega
                  · exact N0 h1
                  · exact N1 h1
                  · exact N2 h1
                refine Wp.run ok_fnd 1 74 #[.val (.ref a), .val (.int (Int32.ofNat n)), .val (.int c), .val (.int (Int32.ofNat f))] [(.int (3 : Int32))] rfl ?_
                exact Wp.retI ok_fnd (t := .int) rfl (by decide) rfl rfl rfl ⟨by rw [ix_hit g3 (by rw [e3, hc3]) hno]; rfl, rfl⟩
        · replace ha2 : ¬ (2 : Int32) < (Int32.ofNat f) := ha2
          have g2 : f ≤ 2 := Nat.le_of_not_lt fun z => ha2 ((n_lt (i := 2) (by decide) (by omega)).mpr z)
          refine Wp.run ok_fnd 2 44 #[.val (.ref a), .val (.int (Int32.ofNat n)), .val (.int c), .val (.int (Int32.ofNat f))] [(.int (Int32.ofNat n)), (.int (2 : Int32))] rfl ?_
          refine Wp.icmp ok_fnd 56 rfl rfl (by decide) (by decide) (fun hb2 => ?_) (fun hb2 => ?_)
          · replace hb2 : ¬ (2 : Int32) < (Int32.ofNat n) := hb2
            have N2 : f ≤ 2 → ([x0, x1, x2, x3].take n)[2]? ≠ some c := fun _ => by
              have z : n ≤ 2 := Nat.le_of_not_lt fun z => hb2 ((n_lt (i := 2) (by decide) (by omega)).mpr z)
              rw [List.getElem?_eq_none (by rw [List.length_take]; omega)]; exact fun y => nomatch y
            refine Wp.run ok_fnd 2 58 #[.val (.ref a), .val (.int (Int32.ofNat n)), .val (.int c), .val (.int (Int32.ofNat f))] [(.int (3 : Int32)), (.int (Int32.ofNat f))] rfl ?_
            refine Wp.icmp ok_fnd 75 rfl rfl (by decide) (by decide) (fun ha3 => ?_) (fun ha3 => ?_)
            · replace ha3 : (3 : Int32) < (Int32.ofNat f) := ha3
              have N3 : f ≤ 3 → ([x0, x1, x2, x3].take n)[3]? ≠ some c := fun z => absurd ((n_lt (i := 3) (by decide) (by omega)).mp ha3) (by omega)
              refine Wp.run ok_fnd 1 76 #[.val (.ref a), .val (.int (Int32.ofNat n)), .val (.int c), .val (.int (Int32.ofNat f))] [(.int (-1 : Int32))] rfl ?_
              have hno : ∀ i, f ≤ i → ([x0, x1, x2, x3].take n)[i]? ≠ some c := fun i hi => by
                by_cases hj4 : i < 4
                · obtain rfl | rfl | rfl | rfl : i = 0 ∨ i = 1 ∨ i = 2 ∨ i = 3 := by omega
                  · exact N0 hi
                  · exact N1 hi
                  · exact N2 hi
                  · exact N3 hi
                · rw [List.getElem?_eq_none (Nat.le_trans (by rw [List.length_take]; exact Nat.min_le_right _ _) (Nat.le_of_not_lt hj4))]; exact fun z => nomatch z
              exact Wp.retI ok_fnd (t := .int) rfl (by decide) rfl rfl rfl ⟨by rw [ix_none hno], rfl⟩
            · replace ha3 : ¬ (3 : Int32) < (Int32.ofNat f) := ha3
              have g3 : f ≤ 3 := Nat.le_of_not_lt fun z => ha3 ((n_lt (i := 3) (by decide) (by omega)).mpr z)
              refine Wp.run ok_fnd 2 63 #[.val (.ref a), .val (.int (Int32.ofNat n)), .val (.int c), .val (.int (Int32.ofNat f))] [(.int (Int32.ofNat n)), (.int (3 : Int32))] rfl ?_
              refine Wp.icmp ok_fnd 75 rfl rfl (by decide) (by decide) (fun hb3 => ?_) (fun hb3 => ?_)
              · replace hb3 : ¬ (3 : Int32) < (Int32.ofNat n) := hb3
                have N3 : f ≤ 3 → ([x0, x1, x2, x3].take n)[3]? ≠ some c := fun _ => by
                  have z : n ≤ 3 := Nat.le_of_not_lt fun z => hb3 ((n_lt (i := 3) (by decide) (by omega)).mpr z)
                  rw [List.getElem?_eq_none (by rw [List.length_take]; omega)]; exact fun y => nomatch y
                refine Wp.run ok_fnd 1 76 #[.val (.ref a), .val (.int (Int32.ofNat n)), .val (.int c), .val (.int (Int32.ofNat f))] [(.int (-1 : Int32))] rfl ?_
                have hno : ∀ i, f ≤ i → ([x0, x1, x2, x3].take n)[i]? ≠ some c := fun i hi => by
                  by_cases hj4 : i < 4
                  · obtain rfl | rfl | rfl | rfl : i = 0 ∨ i = 1 ∨ i = 2 ∨ i = 3 := by omega
                    · exact N0 hi
                    · exact N1 hi
                    · exact N2 hi
                    · exact N3 hi
                  · rw [List.getElem?_eq_none (Nat.le_trans (by rw [List.length_take]; exact Nat.min_le_right _ _) (Nat.le_of_not_lt hj4))]; exact fun z => nomatch z
                exact Wp.retI ok_fnd (t := .int) rfl (by decide) rfl rfl rfl ⟨by rw [ix_none hno], rfl⟩
              · replace hb3 : (3 : Int32) < (Int32.ofNat n) := hb3
                have e3 : ([x0, x1, x2, x3].take n)[3]? = some x3 := by
                  have z : 3 < n := (n_lt (i := 3) (by decide) (by omega)).mp hb3
                  rw [List.getElem?_take_of_lt z]; rfl
                refine Wp.run ok_fnd 2 68 #[.val (.ref a), .val (.int (Int32.ofNat n)), .val (.int c), .val (.int (Int32.ofNat f))] [(.int (3 : Int32)), (.ref a)] rfl ?_
                refine Wp.aget ok_fnd A (i := 3) (v := (.int x3)) rfl rfl rfl rfl rfl ?_
                refine Wp.run ok_fnd 1 70 #[.val (.ref a), .val (.int (Int32.ofNat n)), .val (.int c), .val (.int (Int32.ofNat f))] [(.int c), (.int x3)] rfl ?_
                refine Wp.icmp ok_fnd 75 rfl rfl (by decide) (by decide) (fun hc3 => ?_) (fun hc3 => ?_)
                · replace hc3 : ¬ x3 = c := hc3
                  have N3 : f ≤ 3 → ([x0, x1, x2, x3].take n)[3]? ≠ some c := fun _ => by rw [e3]; exact fun y => hc3 (Option.some.inj y)
                  refine Wp.run ok_fnd 1 76 #[.val (.ref a), .val (.int (Int32.ofNat n)), .val (.int c), .val (.int (Int32.ofNat f))] [(.int (-1 : Int32))] rfl ?_
                  have hno : ∀ i, f ≤ i → ([x0, x1, x2, x3].take n)[i]? ≠ some c := fun i hi => by
                    by_cases hj4 : i < 4
                    · obtain rfl | rfl | rfl | rfl : i = 0 ∨ i = 1 ∨ i = 2 ∨ i = 3 := by omega
                      · exact N0 hi
                      · exact N1 hi
                      · exact N2 hi
                      · exact N3 hi
                    · rw [List.getElem?_eq_none (Nat.le_trans (by rw [List.length_take]; exact Nat.min_le_right _ _) (Nat.le_of_not_lt hj4))]; exact fun z => nomatch z
                  exact Wp.retI ok_fnd (t := .int) rfl (by decide) rfl rfl rfl ⟨by rw [ix_none hno], rfl⟩
                · replace hc3 : x3 = c := hc3
                  have hno : ∀ i, f ≤ i → i < 3 → ([x0, x1, x2, x3].take n)[i]? ≠ some c := fun i h1 h2 => by
                    obtain rfl | rfl | rfl : i = 0 ∨ i = 1 ∨ i = 2 := by omega
                    · exact N0 h1
                    · exact N1 h1
                    · exact N2 h1
                  refine Wp.run ok_fnd 1 74 #[.val (.ref a), .val (.int (Int32.ofNat n)), .val (.int c), .val (.int (Int32.ofNat f))] [(.int (3 : Int32))] rfl ?_
                  exact Wp.retI ok_fnd (t := .int) rfl (by decide) rfl rfl rfl ⟨by rw [ix_hit g3 (by rw [e3, hc3]) hno]; rfl, rfl⟩
          · replace hb2 : (2 : Int32) < (Int32.ofNat n) := hb2
            have e2 : ([x0, x1, x2, x3].take n)[2]? = some x2 := by
              have z : 2 < n := (n_lt (i := 2) (by decide) (by omega)).mp hb2
              rw [List.getElem?_take_of_lt z]; rfl
            refine Wp.run ok_fnd 2 49 #[.val (.ref a), .val (.int (Int32.ofNat n)), .val (.int c), .val (.int (Int32.ofNat f))] [(.int (2 : Int32)), (.ref a)] rfl ?_
            refine Wp.aget ok_fnd A (i := 2) (v := (.int x2)) rfl rfl rfl rfl rfl ?_
            refine Wp.run ok_fnd 1 51 #[.val (.ref a), .val (.int (Int32.ofNat n)), .val (.int c), .val (.int (Int32.ofNat f))] [(.int c), (.int x2)] rfl ?_
            refine Wp.icmp ok_fnd 56 rfl rfl (by decide) (by decide) (fun hc2 => ?_) (fun hc2 => ?_)
            · replace hc2 : ¬ x2 = c := hc2
              have N2 : f ≤ 2 → ([x0, x1, x2, x3].take n)[2]? ≠ some c := fun _ => by rw [e2]; exact fun y => hc2 (Option.some.inj y)
              refine Wp.run ok_fnd 2 58 #[.val (.ref a), .val (.int (Int32.ofNat n)), .val (.int c), .val (.int (Int32.ofNat f))] [(.int (3 : Int32)), (.int (Int32.ofNat f))] rfl ?_
              refine Wp.icmp ok_fnd 75 rfl rfl (by decide) (by decide) (fun ha3 => ?_) (fun ha3 => ?_)
              · replace ha3 : (3 : Int32) < (Int32.ofNat f) := ha3
                have N3 : f ≤ 3 → ([x0, x1, x2, x3].take n)[3]? ≠ some c := fun z => absurd ((n_lt (i := 3) (by decide) (by omega)).mp ha3) (by omega)
                refine Wp.run ok_fnd 1 76 #[.val (.ref a), .val (.int (Int32.ofNat n)), .val (.int c), .val (.int (Int32.ofNat f))] [(.int (-1 : Int32))] rfl ?_
                have hno : ∀ i, f ≤ i → ([x0, x1, x2, x3].take n)[i]? ≠ some c := fun i hi => by
                  by_cases hj4 : i < 4
                  · obtain rfl | rfl | rfl | rfl : i = 0 ∨ i = 1 ∨ i = 2 ∨ i = 3 := by omega
                    · exact N0 hi
                    · exact N1 hi
                    · exact N2 hi
                    · exact N3 hi
                  · rw [List.getElem?_eq_none (Nat.le_trans (by rw [List.length_take]; exact Nat.min_le_right _ _) (Nat.le_of_not_lt hj4))]; exact fun z => nomatch z
                exact Wp.retI ok_fnd (t := .int) rfl (by decide) rfl rfl rfl ⟨by rw [ix_none hno], rfl⟩
              · replace ha3 : ¬ (3 : Int32) < (Int32.ofNat f) := ha3
                have g3 : f ≤ 3 := Nat.le_of_not_lt fun z => ha3 ((n_lt (i := 3) (by decide) (by omega)).mpr z)
                refine Wp.run ok_fnd 2 63 #[.val (.ref a), .val (.int (Int32.ofNat n)), .val (.int c), .val (.int (Int32.ofNat f))] [(.int (Int32.ofNat n)), (.int (3 : Int32))] rfl ?_
                refine Wp.icmp ok_fnd 75 rfl rfl (by decide) (by decide) (fun hb3 => ?_) (fun hb3 => ?_)
                · replace hb3 : ¬ (3 : Int32) < (Int32.ofNat n) := hb3
                  have N3 : f ≤ 3 → ([x0, x1, x2, x3].take n)[3]? ≠ some c := fun _ => by
                    have z : n ≤ 3 := Nat.le_of_not_lt fun z => hb3 ((n_lt (i := 3) (by decide) (by omega)).mpr z)
                    rw [List.getElem?_eq_none (by rw [List.length_take]; omega)]; exact fun y => nomatch y
                  refine Wp.run ok_fnd 1 76 #[.val (.ref a), .val (.int (Int32.ofNat n)), .val (.int c), .val (.int (Int32.ofNat f))] [(.int (-1 : Int32))] rfl ?_
                  have hno : ∀ i, f ≤ i → ([x0, x1, x2, x3].take n)[i]? ≠ some c := fun i hi => by
                    by_cases hj4 : i < 4
                    · obtain rfl | rfl | rfl | rfl : i = 0 ∨ i = 1 ∨ i = 2 ∨ i = 3 := by omega
                      · exact N0 hi
                      · exact N1 hi
                      · exact N2 hi
                      · exact N3 hi
                    · rw [List.getElem?_eq_none (Nat.le_trans (by rw [List.length_take]; exact Nat.min_le_right _ _) (Nat.le_of_not_lt hj4))]; exact fun z => nomatch z
                  exact Wp.retI ok_fnd (t := .int) rfl (by decide) rfl rfl rfl ⟨by rw [ix_none hno], rfl⟩
                · replace hb3 : (3 : Int32) < (Int32.ofNat n) := hb3
                  have e3 : ([x0, x1, x2, x3].take n)[3]? = some x3 := by
                    have z : 3 < n := (n_lt (i := 3) (by decide) (by omega)).mp hb3
                    rw [List.getElem?_take_of_lt z]; rfl
                  refine Wp.run ok_fnd 2 68 #[.val (.ref a), .val (.int (Int32.ofNat n)), .val (.int c), .val (.int (Int32.ofNat f))] [(.int (3 : Int32)), (.ref a)] rfl ?_
                  refine Wp.aget ok_fnd A (i := 3) (v := (.int x3)) rfl rfl rfl rfl rfl ?_
                  refine Wp.run ok_fnd 1 70 #[.val (.ref a), .val (.int (Int32.ofNat n)), .val (.int c), .val (.int (Int32.ofNat f))] [(.int c), (.int x3)] rfl ?_
                  refine Wp.icmp ok_fnd 75 rfl rfl (by decide) (by decide) (fun hc3 => ?_) (fun hc3 => ?_)
                  · replace hc3 : ¬ x3 = c := hc3
                    have N3 : f ≤ 3 → ([x0, x1, x2, x3].take n)[3]? ≠ some c := fun _ => by rw [e3]; exact fun y => hc3 (Option.some.inj y)
                    refine Wp.run ok_fnd 1 76 #[.val (.ref a), .val (.int (Int32.ofNat n)), .val (.int c), .val (.int (Int32.ofNat f))] [(.int (-1 : Int32))] rfl ?_
                    have hno : ∀ i, f ≤ i → ([x0, x1, x2, x3].take n)[i]? ≠ some c := fun i hi => by
                      by_cases hj4 : i < 4
                      · obtain rfl | rfl | rfl | rfl : i = 0 ∨ i = 1 ∨ i = 2 ∨ i = 3 := by omega
                        · exact N0 hi
                        · exact N1 hi
                        · exact N2 hi
                        · exact N3 hi
                      · rw [List.getElem?_eq_none (Nat.le_trans (by rw [List.length_take]; exact Nat.min_le_right _ _) (Nat.le_of_not_lt hj4))]; exact fun z => nomatch z
                    exact Wp.retI ok_fnd (t := .int) rfl (by decide) rfl rfl rfl ⟨by rw [ix_none hno], rfl⟩
                  · replace hc3 : x3 = c := hc3
                    have hno : ∀ i, f ≤ i → i < 3 → ([x0, x1, x2, x3].take n)[i]? ≠ some c := fun i h1 h2 => by
                      obtain rfl | rfl | rfl : i = 0 ∨ i = 1 ∨ i = 2 := by omega
                      · exact N0 h1
                      · exact N1 h1
                      · exact N2 h1
                    refine Wp.run ok_fnd 1 74 #[.val (.ref a), .val (.int (Int32.ofNat n)), .val (.int c), .val (.int (Int32.ofNat f))] [(.int (3 : Int32))] rfl ?_
                    exact Wp.retI ok_fnd (t := .int) rfl (by decide) rfl rfl rfl ⟨by rw [ix_hit g3 (by rw [e3, hc3]) hno]; rfl, rfl⟩
            · replace hc2 : x2 = c := hc2
              have hno : ∀ i, f ≤ i → i < 2 → ([x0, x1, x2, x3].take n)[i]? ≠ some c := fun i h1 h2 => by
                obtain rfl | rfl : i = 0 ∨ i = 1 := by omega
                · exact N0 h1
                · exact N1 h1
              refine Wp.run ok_fnd 1 55 #[.val (.ref a), .val (.int (Int32.ofNat n)), .val (.int c), .val (.int (Int32.ofNat f))] [(.int (2 : Int32))] rfl ?_
              exact Wp.retI ok_fnd (t := .int) rfl (by decide) rfl rfl rfl ⟨by rw [ix_hit g2 (by rw [e2, hc2]) hno]; rfl, rfl⟩
      · replace ha1 : ¬ (1 : Int32) < (Int32.ofNat f) := ha1
        have g1 : f ≤ 1 := Nat.le_of_not_lt fun z => ha1 ((n_lt (i := 1) (by decide) (by omega)).mpr z)
        refine Wp.run ok_fnd 2 25 #[.val (.ref a), .val (.int (Int32.ofNat n)), .val (.int c), .val (.int (Int32.ofNat f))] [(.int (Int32.ofNat n)), (.int (1 : Int32))] rfl ?_
        refine Wp.icmp ok_fnd 37 rfl rfl (by decide) (by decide) (fun hb1 => ?_) (fun hb1 => ?_)
        · replace hb1 : ¬ (1 : Int32) < (Int32.ofNat n) := hb1
          have N1 : f ≤ 1 → ([x0, x1, x2, x3].take n)[1]? ≠ some c := fun _ => by
            have z : n ≤ 1 := Nat.le_of_not_lt fun z => hb1 ((n_lt (i := 1) (by decide) (by omega)).mpr z)
            rw [List.getElem?_eq_none (by rw [List.length_take]; omega)]; exact fun y => nomatch y
          refine Wp.run ok_fnd 2 39 #[.val (.ref a), .val (.int (Int32.ofNat n)), .val (.int c), .val (.int (Int32.ofNat f))] [(.int (2 : Int32)), (.int (Int32.ofNat f))] rfl ?_
          refine Wp.icmp ok_fnd 56 rfl rfl (by decide) (by decide) (fun ha2 => ?_) (fun ha2 => ?_)
          · replace ha2 : (2 : Int32) < (Int32.ofNat f) := ha2
            have N2 : f ≤ 2 → ([x0, x1, x2, x3].take n)[2]? ≠ some c := fun z => absurd ((n_lt (i := 2) (by decide) (by omega)).mp ha2) (by omega)
            refine Wp.run ok_fnd 2 58 #[.val (.ref a), .val (.int (Int32.ofNat n)), .val (.int c), .val (.int (Int32.ofNat f))] [(.int (3 : Int32)), (.int (Int32.ofNat f))] rfl ?_
            refine Wp.icmp ok_fnd 75 rfl rfl (by decide) (by decide) (fun ha3 => ?_) (fun ha3 => ?_)
            · replace ha3 : (3 : Int32) < (Int32.ofNat f) := ha3
              have N3 : f ≤ 3 → ([x0, x1, x2, x3].take n)[3]? ≠ some c := fun z => absurd ((n_lt (i := 3) (by decide) (by omega)).mp ha3) (by omega)
              refine Wp.run ok_fnd 1 76 #[.val (.ref a), .val (.int (Int32.ofNat n)), .val (.int c), .val (.int (Int32.ofNat f))] [(.int (-1 : Int32))] rfl ?_
              have hno : ∀ i, f ≤ i → ([x0, x1, x2, x3].take n)[i]? ≠ some c := fun i hi => by
                by_cases hj4 : i < 4
                · obtain rfl | rfl | rfl | rfl : i = 0 ∨ i = 1 ∨ i = 2 ∨ i = 3 := by omega
                  · exact N0 hi
                  · exact N1 hi
                  · exact N2 hi
                  · exact N3 hi
                · rw [List.getElem?_eq_none (Nat.le_trans (by rw [List.length_take]; exact Nat.min_le_right _ _) (Nat.le_of_not_lt hj4))]; exact fun z => nomatch z
              exact Wp.retI ok_fnd (t := .int) rfl (by decide) rfl rfl rfl ⟨by rw [ix_none hno], rfl⟩
            · replace ha3 : ¬ (3 : Int32) < (Int32.ofNat f) := ha3
              have g3 : f ≤ 3 := Nat.le_of_not_lt fun z => ha3 ((n_lt (i := 3) (by decide) (by omega)).mpr z)
              refine Wp.run ok_fnd 2 63 #[.val (.ref a), .val (.int (Int32.ofNat n)), .val (.int c), .val (.int (Int32.ofNat f))] [(.int (Int32.ofNat n)), (.int (3 : Int32))] rfl ?_
              refine Wp.icmp ok_fnd 75 rfl rfl (by decide) (by decide) (fun hb3 => ?_) (fun hb3 => ?_)
              · replace hb3 : ¬ (3 : Int32) < (Int32.ofNat n) := hb3
                have N3 : f ≤ 3 → ([x0, x1, x2, x3].take n)[3]? ≠ some c := fun _ => by
                  have z : n ≤ 3 := Nat.le_of_not_lt fun z => hb3 ((n_lt (i := 3) (by decide) (by omega)).mpr z)
                  rw [List.getElem?_eq_none (by rw [List.length_take]; omega)]; exact fun y => nomatch y
                refine Wp.run ok_fnd 1 76 #[.val (.ref a), .val (.int (Int32.ofNat n)), .val (.int c), .val (.int (Int32.ofNat f))] [(.int (-1 : Int32))] rfl ?_
                have hno : ∀ i, f ≤ i → ([x0, x1, x2, x3].take n)[i]? ≠ some c := fun i hi => by
                  by_cases hj4 : i < 4
                  · obtain rfl | rfl | rfl | rfl : i = 0 ∨ i = 1 ∨ i = 2 ∨ i = 3 := by omega
                    · exact N0 hi
                    · exact N1 hi
                    · exact N2 hi
                    · exact N3 hi
                  · rw [List.getElem?_eq_none (Nat.le_trans (by rw [List.length_take]; exact Nat.min_le_right _ _) (Nat.le_of_not_lt hj4))]; exact fun z => nomatch z
                exact Wp.retI ok_fnd (t := .int) rfl (by decide) rfl rfl rfl ⟨by rw [ix_none hno], rfl⟩
              · replace hb3 : (3 : Int32) < (Int32.ofNat n) := hb3
                have e3 : ([x0, x1, x2, x3].take n)[3]? = some x3 := by
                  have z : 3 < n := (n_lt (i := 3) (by decide) (by omega)).mp hb3
                  rw [List.getElem?_take_of_lt z]; rfl
                refine Wp.run ok_fnd 2 68 #[.val (.ref a), .val (.int (Int32.ofNat n)), .val (.int c), .val (.int (Int32.ofNat f))] [(.int (3 : Int32)), (.ref a)] rfl ?_
                refine Wp.aget ok_fnd A (i := 3) (v := (.int x3)) rfl rfl rfl rfl rfl ?_
                refine Wp.run ok_fnd 1 70 #[.val (.ref a), .val (.int (Int32.ofNat n)), .val (.int c), .val (.int (Int32.ofNat f))] [(.int c), (.int x3)] rfl ?_
                refine Wp.icmp ok_fnd 75 rfl rfl (by decide) (by decide) (fun hc3 => ?_) (fun hc3 => ?_)
                · replace hc3 : ¬ x3 = c := hc3
                  have N3 : f ≤ 3 → ([x0, x1, x2, x3].take n)[3]? ≠ some c := fun _ => by rw [e3]; exact fun y => hc3 (Option.some.inj y)
                  refine Wp.run ok_fnd 1 76 #[.val (.ref a), .val (.int (Int32.ofNat n)), .val (.int c), .val (.int (Int32.ofNat f))] [(.int (-1 : Int32))] rfl ?_
                  have hno : ∀ i, f ≤ i → ([x0, x1, x2, x3].take n)[i]? ≠ some c := fun i hi => by
                    by_cases hj4 : i < 4
                    · obtain rfl | rfl | rfl | rfl : i = 0 ∨ i = 1 ∨ i = 2 ∨ i = 3 := by omega
                      · exact N0 hi
                      · exact N1 hi
                      · exact N2 hi
                      · exact N3 hi
                    · rw [List.getElem?_eq_none (Nat.le_trans (by rw [List.length_take]; exact Nat.min_le_right _ _) (Nat.le_of_not_lt hj4))]; exact fun z => nomatch z
                  exact Wp.retI ok_fnd (t := .int) rfl (by decide) rfl rfl rfl ⟨by rw [ix_none hno], rfl⟩
                · replace hc3 : x3 = c := hc3
                  have hno : ∀ i, f ≤ i → i < 3 → ([x0, x1, x2, x3].take n)[i]? ≠ some c := fun i h1 h2 => by
                    obtain rfl | rfl | rfl : i = 0 ∨ i = 1 ∨ i = 2 := by omega
                    · exact N0 h1
                    · exact N1 h1
                    · exact N2 h1
                  refine Wp.run ok_fnd 1 74 #[.val (.ref a), .val (.int (Int32.ofNat n)), .val (.int c), .val (.int (Int32.ofNat f))] [(.int (3 : Int32))] rfl ?_
                  exact Wp.retI ok_fnd (t := .int) rfl (by decide) rfl rfl rfl ⟨by rw [ix_hit g3 (by rw [e3, hc3]) hno]; rfl, rfl⟩
          · replace ha2 : ¬ (2 : Int32) < (Int32.ofNat f) := ha2
            have g2 : f ≤ 2 := Nat.le_of_not_lt fun z => ha2 ((n_lt (i := 2) (by decide) (by omega)).mpr z)
            refine Wp.run ok_fnd 2 44 #[.val (.ref a), .val (.int (Int32.ofNat n)), .val (.int c), .val (.int (Int32.ofNat f))] [(.int (Int32.ofNat n)), (.int (2 : Int32))] rfl ?_
            refine Wp.icmp ok_fnd 56 rfl rfl (by decide) (by decide) (fun hb2 => ?_) (fun hb2 => ?_)
            · replace hb2 : ¬ (2 : Int32) < (Int32.ofNat n) := hb2
              have N2 : f ≤ 2 → ([x0, x1, x2, x3].take n)[2]? ≠ some c := fun _ => by
                have z : n ≤ 2 := Nat.le_of_not_lt fun z => hb2 ((n_lt (i := 2) (by decide) (by omega)).mpr z)
                rw [List.getElem?_eq_none (by rw [List.length_take]; omega)]; exact fun y => nomatch y
              refine Wp.run ok_fnd 2 58 #[.val (.ref a), .val (.int (Int32.ofNat n)), .val (.int c), .val (.int (Int32.ofNat f))] [(.int (3 : Int32)), (.int (Int32.ofNat f))] rfl ?_
              refine Wp.icmp ok_fnd 75 rfl rfl (by decide) (by decide) (fun ha3 => ?_) (fun ha3 => ?_)
              · replace ha3 : (3 : Int32) < (Int32.ofNat f) := ha3
                have N3 : f ≤ 3 → ([x0, x1, x2, x3].take n)[3]? ≠ some c := fun z => absurd ((n_lt (i := 3) (by decide) (by omega)).mp ha3) (by omega)
                refine Wp.run ok_fnd 1 76 #[.val (.ref a), .val (.int (Int32.ofNat n)), .val (.int c), .val (.int (Int32.ofNat f))] [(.int (-1 : Int32))] rfl ?_
                have hno : ∀ i, f ≤ i → ([x0, x1, x2, x3].take n)[i]? ≠ some c := fun i hi => by
                  by_cases hj4 : i < 4
                  · obtain rfl | rfl | rfl | rfl : i = 0 ∨ i = 1 ∨ i = 2 ∨ i = 3 := by omega
                    · exact N0 hi
                    · exact N1 hi
                    · exact N2 hi
                    · exact N3 hi
                  · rw [List.getElem?_eq_none (Nat.le_trans (by rw [List.length_take]; exact Nat.min_le_right _ _) (Nat.le_of_not_lt hj4))]; exact fun z => nomatch z
                exact Wp.retI ok_fnd (t := .int) rfl (by decide) rfl rfl rfl ⟨by rw [ix_none hno], rfl⟩
              · replace ha3 : ¬ (3 : Int32) < (Int32.ofNat f) := ha3
                have g3 : f ≤ 3 := Nat.le_of_not_lt fun z => ha3 ((n_lt (i := 3) (by decide) (by omega)).mpr z)
                refine Wp.run ok_fnd 2 63 #[.val (.ref a), .val (.int (Int32.ofNat n)), .val (.int c), .val (.int (Int32.ofNat f))] [(.int (Int32.ofNat n)), (.int (3 : Int32))] rfl ?_
                refine Wp.icmp ok_fnd 75 rfl rfl (by decide) (by decide) (fun hb3 => ?_) (fun hb3 => ?_)
                · replace hb3 : ¬ (3 : Int32) < (Int32.ofNat n) := hb3
                  have N3 : f ≤ 3 → ([x0, x1, x2, x3].take n)[3]? ≠ some c := fun _ => by
                    have z : n ≤ 3 := Nat.le_of_not_lt fun z => hb3 ((n_lt (i := 3) (by decide) (by omega)).mpr z)
                    rw [List.getElem?_eq_none (by rw [List.length_take]; omega)]; exact fun y => nomatch y
                  refine Wp.run ok_fnd 1 76 #[.val (.ref a), .val (.int (Int32.ofNat n)), .val (.int c), .val (.int (Int32.ofNat f))] [(.int (-1 : Int32))] rfl ?_
                  have hno : ∀ i, f ≤ i → ([x0, x1, x2, x3].take n)[i]? ≠ some c := fun i hi => by
                    by_cases hj4 : i < 4
                    · obtain rfl | rfl | rfl | rfl : i = 0 ∨ i = 1 ∨ i = 2 ∨ i = 3 := by omega
                      · exact N0 hi
                      · exact N1 hi
                      · exact N2 hi
                      · exact N3 hi
                    · rw [List.getElem?_eq_none (Nat.le_trans (by rw [List.length_take]; exact Nat.min_le_right _ _) (Nat.le_of_not_lt hj4))]; exact fun z => nomatch z
                  exact Wp.retI ok_fnd (t := .int) rfl (by decide) rfl rfl rfl ⟨by rw [ix_none hno], rfl⟩
                · replace hb3 : (3 : Int32) < (Int32.ofNat n) := hb3
                  have e3 : ([x0, x1, x2, x3].take n)[3]? = some x3 := by
                    have z : 3 < n := (n_lt (i := 3) (by decide) (by omega)).mp hb3
                    rw [List.getElem?_take_of_lt z]; rfl
                  refine Wp.run ok_fnd 2 68 #[.val (.ref a), .val (.int (Int32.ofNat n)), .val (.int c), .val (.int (Int32.ofNat f))] [(.int (3 : Int32)), (.ref a)] rfl ?_
                  refine Wp.aget ok_fnd A (i := 3) (v := (.int x3)) rfl rfl rfl rfl rfl ?_
                  refine Wp.run ok_fnd 1 70 #[.val (.ref a), .val (.int (Int32.ofNat n)), .val (.int c), .val (.int (Int32.ofNat f))] [(.int c), (.int x3)] rfl ?_
                  refine Wp.icmp ok_fnd 75 rfl rfl (by decide) (by decide) (fun hc3 => ?_) (fun hc3 => ?_)
                  · replace hc3 : ¬ x3 = c := hc3
                    have N3 : f ≤ 3 → ([x0, x1, x2, x3].take n)[3]? ≠ some c := fun _ => by rw [e3]; exact fun y => hc3 (Option.some.inj y)
                    refine Wp.run ok_fnd 1 76 #[.val (.ref a), .val (.int (Int32.ofNat n)), .val (.int c), .val (.int (Int32.ofNat f))] [(.int (-1 : Int32))] rfl ?_
                    have hno : ∀ i, f ≤ i → ([x0, x1, x2, x3].take n)[i]? ≠ some c := fun i hi => by
                      by_cases hj4 : i < 4
                      · obtain rfl | rfl | rfl | rfl : i = 0 ∨ i = 1 ∨ i = 2 ∨ i = 3 := by omega
                        · exact N0 hi
                        · exact N1 hi
                        · exact N2 hi
                        · exact N3 hi
                      · rw [List.getElem?_eq_none (Nat.le_trans (by rw [List.length_take]; exact Nat.min_le_right _ _) (Nat.le_of_not_lt hj4))]; exact fun z => nomatch z
                    exact Wp.retI ok_fnd (t := .int) rfl (by decide) rfl rfl rfl ⟨by rw [ix_none hno], rfl⟩
                  · replace hc3 : x3 = c := hc3
                    have hno : ∀ i, f ≤ i → i < 3 → ([x0, x1, x2, x3].take n)[i]? ≠ some c := fun i h1 h2 => by
                      obtain rfl | rfl | rfl : i = 0 ∨ i = 1 ∨ i = 2 := by omega
                      · exact N0 h1
                      · exact N1 h1
                      · exact N2 h1
                    refine Wp.run ok_fnd 1 74 #[.val (.ref a), .val (.int (Int32.ofNat n)), .val (.int c), .val (.int (Int32.ofNat f))] [(.int (3 : Int32))] rfl ?_
                    exact Wp.retI ok_fnd (t := .int) rfl (by decide) rfl rfl rfl ⟨by rw [ix_hit g3 (by rw [e3, hc3]) hno]; rfl, rfl⟩
            · replace hb2 : (2 : Int32) < (Int32.ofNat n) := hb2
              have e2 : ([x0, x1, x2, x3].take n)[2]? = some x2 := by
                have z : 2 < n := (n_lt (i := 2) (by decide) (by omega)).mp hb2
                rw [List.getElem?_take_of_lt z]; rfl
              refine Wp.run ok_fnd 2 49 #[.val (.ref a), .val (.int (Int32.ofNat n)), .val (.int c), .val (.int (Int32.ofNat f))] [(.int (2 : Int32)), (.ref a)] rfl ?_
              refine Wp.aget ok_fnd A (i := 2) (v := (.int x2)) rfl rfl rfl rfl rfl ?_
              refine Wp.run ok_fnd 1 51 #[.val (.ref a), .val (.int (Int32.ofNat n)), .val (.int c), .val (.int (Int32.ofNat f))] [(.int c), (.int x2)] rfl ?_
              refine Wp.icmp ok_fnd 56 rfl rfl (by decide) (by decide) (fun hc2 => ?_) (fun hc2 => ?_)
              · replace hc2 : ¬ x2 = c := hc2
                have N2 : f ≤ 2 → ([x0, x1, x2, x3].take n)[2]? ≠ some c := fun _ => by rw [e2]; exact fun y => hc2 (Option.some.inj y)
                refine Wp.run ok_fnd 2 58 #[.val (.ref a), .val (.int (Int32.ofNat n)), .val (.int c), .val (.int (Int32.ofNat f))] [(.int (3 : Int32)), (.int (Int32.ofNat f))] rfl ?_
                refine Wp.icmp ok_fnd 75 rfl rfl (by decide) (by decide) (fun ha3 => ?_) (fun ha3 => ?_)
                · replace ha3 : (3 : Int32) < (Int32.ofNat f) := ha3
                  have N3 : f ≤ 3 → ([x0, x1, x2, x3].take n)[3]? ≠ some c := fun z => absurd ((n_lt (i := 3) (by decide) (by omega)).mp ha3) (by omega)
                  refine Wp.run ok_fnd 1 76 #[.val (.ref a), .val (.int (Int32.ofNat n)), .val (.int c), .val (.int (Int32.ofNat f))] [(.int (-1 : Int32))] rfl ?_
                  have hno : ∀ i, f ≤ i → ([x0, x1, x2, x3].take n)[i]? ≠ some c := fun i hi => by
                    by_cases hj4 : i < 4
                    · obtain rfl | rfl | rfl | rfl : i = 0 ∨ i = 1 ∨ i = 2 ∨ i = 3 := by omega
                      · exact N0 hi
                      · exact N1 hi
                      · exact N2 hi
                      · exact N3 hi
                    · rw [List.getElem?_eq_none (Nat.le_trans (by rw [List.length_take]; exact Nat.min_le_right _ _) (Nat.le_of_not_lt hj4))]; exact fun z => nomatch z
                  exact Wp.retI ok_fnd (t := .int) rfl (by decide) rfl rfl rfl ⟨by rw [ix_none hno], rfl⟩
                · replace ha3 : ¬ (3 : Int32) < (Int32.ofNat f) := ha3
                  have g3 : f ≤ 3 := Nat.le_of_not_lt fun z => ha3 ((n_lt (i := 3) (by decide) (by omega)).mpr z)
                  refine Wp.run ok_fnd 2 63 #[.val (.ref a), .val (.int (Int32.ofNat n)), .val (.int c), .val (.int (Int32.ofNat f))] [(.int (Int32.ofNat n)), (.int (3 : Int32))] rfl ?_
                  refine Wp.icmp ok_fnd 75 rfl rfl (by decide) (by decide) (fun hb3 => ?_) (fun hb3 => ?_)
                  · replace hb3 : ¬ (3 : Int32) < (Int32.ofNat n) := hb3
                    have N3 : f ≤ 3 → ([x0, x1, x2, x3].take n)[3]? ≠ some c := fun _ => by
                      have z : n ≤ 3 := Nat.le_of_not_lt fun z => hb3 ((n_lt (i := 3) (by decide) (by omega)).mpr z)
                      rw [List.getElem?_eq_none (by rw [List.length_take]; omega)]; exact fun y => nomatch y
                    refine Wp.run ok_fnd 1 76 #[.val (.ref a), .val (.int (Int32.ofNat n)), .val (.int c), .val (.int (Int32.ofNat f))] [(.int (-1 : Int32))] rfl ?_
                    have hno : ∀ i, f ≤ i → ([x0, x1, x2, x3].take n)[i]? ≠ some c := fun i hi => by
                      by_cases hj4 : i < 4
                      · obtain rfl | rfl | rfl | rfl : i = 0 ∨ i = 1 ∨ i = 2 ∨ i = 3 := by omega
                        · exact N0 hi
                        · exact N1 hi
                        · exact N2 hi
                        · exact N3 hi
                      · rw [List.getElem?_eq_none (Nat.le_trans (by rw [List.length_take]; exact Nat.min_le_right _ _) (Nat.le_of_not_lt hj4))]; exact fun z => nomatch z
                    exact Wp.retI ok_fnd (t := .int) rfl (by decide) rfl rfl rfl ⟨by rw [ix_none hno], rfl⟩
                  · replace hb3 : (3 : Int32) < (Int32.ofNat n) := hb3
                    have e3 : ([x0, x1, x2, x3].take n)[3]? = some x3 := by
                      have z : 3 < n := (n_lt (i := 3) (by decide) (by omega)).mp hb3
                      rw [List.getElem?_take_of_lt z]; rfl
                    refine Wp.run ok_fnd 2 68 #[.val (.ref a), .val (.int (Int32.ofNat n)), .val (.int c), .val (.int (Int32.ofNat f))] [(.int (3 : Int32)), (.ref a)] rfl ?_
                    refine Wp.aget ok_fnd A (i := 3) (v := (.int x3)) rfl rfl rfl rfl rfl ?_
                    refine Wp.run ok_fnd 1 70 #[.val (.ref a), .val (.int (Int32.ofNat n)), .val (.int c), .val (.int (Int32.ofNat f))] [(.int c), (.int x3)] rfl ?_
                    refine Wp.icmp ok_fnd 75 rfl rfl (by decide) (by decide) (fun hc3 => ?_) (fun hc3 => ?_)
                    · replace hc3 : ¬ x3 = c := hc3
                      have N3 : f ≤ 3 → ([x0, x1, x2, x3].take n)[3]? ≠ some c := fun _ => by rw [e3]; exact fun y => hc3 (Option.some.inj y)
                      refine Wp.run ok_fnd 1 76 #[.val (.ref a), .val (.int (Int32.ofNat n)), .val (.int c), .val (.int (Int32.ofNat f))] [(.int (-1 : Int32))] rfl ?_
                      have hno : ∀ i, f ≤ i → ([x0, x1, x2, x3].take n)[i]? ≠ some c := fun i hi => by
                        by_cases hj4 : i < 4
                        · obtain rfl | rfl | rfl | rfl : i = 0 ∨ i = 1 ∨ i = 2 ∨ i = 3 := by omega
                          · exact N0 hi
                          · exact N1 hi
                          · exact N2 hi
                          · exact N3 hi
                        · rw [List.getElem?_eq_none (Nat.le_trans (by rw [List.length_take]; exact Nat.min_le_right _ _) (Nat.le_of_not_lt hj4))]; exact fun z => nomatch z
                      exact Wp.retI ok_fnd (t := .int) rfl (by decide) rfl rfl rfl ⟨by rw [ix_none hno], rfl⟩
                    · replace hc3 : x3 = c := hc3
                      have hno : ∀ i, f ≤ i → i < 3 → ([x0, x1, x2, x3].take n)[i]? ≠ some c := fun i h1 h2 => by
                        obtain rfl | rfl | rfl : i = 0 ∨ i = 1 ∨ i = 2 := by omega
                        · exact N0 h1
                        · exact N1 h1
                        · exact N2 h1
                      refine Wp.run ok_fnd 1 74 #[.val (.ref a), .val (.int (Int32.ofNat n)), .val (.int c), .val (.int (Int32.ofNat f))] [(.int (3 : Int32))] rfl ?_
                      exact Wp.retI ok_fnd (t := .int) rfl (by decide) rfl rfl rfl ⟨by rw [ix_hit g3 (by rw [e3, hc3]) hno]; rfl, rfl⟩
              · replace hc2 : x2 = c := hc2
                have hno : ∀ i, f ≤ i → i < 2 → ([x0, x1, x2, x3].take n)[i]? ≠ some c := fun i h1 h2 => by
                  obtain rfl | rfl : i = 0 ∨ i = 1 := by omega
                  · exact N0 h1
                  · exact N1 h1
                refine Wp.run ok_fnd 1 55 #[.val (.ref a), .val (.int (Int32.ofNat n)), .val (.int c), .val (.int (Int32.ofNat f))] [(.int (2 : Int32))] rfl ?_
                exact Wp.retI ok_fnd (t := .int) rfl (by decide) rfl rfl rfl ⟨by rw [ix_hit g2 (by rw [e2, hc2]) hno]; rfl, rfl⟩
        · replace hb1 : (1 : Int32) < (Int32.ofNat n) := hb1
          have e1 : ([x0, x1, x2, x3].take n)[1]? = some x1 := by
            have z : 1 < n := (n_lt (i := 1) (by decide) (by omega)).mp hb1
            rw [List.getElem?_take_of_lt z]; rfl
          refine Wp.run ok_fnd 2 30 #[.val (.ref a), .val (.int (Int32.ofNat n)), .val (.int c), .val (.int (Int32.ofNat f))] [(.int (1 : Int32)), (.ref a)] rfl ?_
          refine Wp.aget ok_fnd A (i := 1) (v := (.int x1)) rfl rfl rfl rfl rfl ?_
          refine Wp.run ok_fnd 1 32 #[.val (.ref a), .val (.int (Int32.ofNat n)), .val (.int c), .val (.int (Int32.ofNat f))] [(.int c), (.int x1)] rfl ?_
          refine Wp.icmp ok_fnd 37 rfl rfl (by decide) (by decide) (fun hc1 => ?_) (fun hc1 => ?_)
          · replace hc1 : ¬ x1 = c := hc1
            have N1 : f ≤ 1 → ([x0, x1, x2, x3].take n)[1]? ≠ some c := fun _ => by rw [e1]; exact fun y => hc1 (Option.some.inj y)
            refine Wp.run ok_fnd 2 39 #[.val (.ref a), .val (.int (Int32.ofNat n)), .val (.int c), .val (.int (Int32.ofNat f))] [(.int (2 : Int32)), (.int (Int32.ofNat f))] rfl ?_
            refine Wp.icmp ok_fnd 56 rfl rfl (by decide) (by decide) (fun ha2 => ?_) (fun ha2 => ?_)
            · replace ha2 : (2 : Int32) < (Int32.ofNat f) := ha2
              have N2 : f ≤ 2 → ([x0, x1, x2, x3].take n)[2]? ≠ some c := fun z => absurd ((n_lt (i := 2) (by decide) (by omega)).mp ha2) (by omega)
              refine Wp.run ok_fnd 2 58 #[.val (.ref a), .val (.int (Int32.ofNat n)), .val (.int c), .val (.int (Int32.ofNat f))] [(.int (3 : Int32)), (.int (Int32.ofNat f))] rfl ?_
              refine Wp.icmp ok_fnd 75 rfl rfl (by decide) (by decide) (fun ha3 => ?_) (fun ha3 => ?_)
              · replace ha3 : (3 : Int32) < (Int32.ofNat f) := ha3
                have N3 : f ≤ 3 → ([x0, x1, x2, x3].take n)[3]? ≠ some c := fun z => absurd ((n_lt (i := 3) (by decide) (by omega)).mp ha3) (by omega)
                refine Wp.run ok_fnd 1 76 #[.val (.ref a), .val (.int (Int32.ofNat n)), .val (.int c), .val (.int (Int32.ofNat f))] [(.int (-1 : Int32))] rfl ?_
                have hno : ∀ i, f ≤ i → ([x0, x1, x2, x3].take n)[i]? ≠ some c := fun i hi => by
                  by_cases hj4 : i < 4
                  · obtain rfl | rfl | rfl | rfl : i = 0 ∨ i = 1 ∨ i = 2 ∨ i = 3 := by omega
                    · exact N0 hi
                    · exact N1 hi
                    · exact N2 hi
                    · exact N3 hi
                  · rw [List.getElem?_eq_none (Nat.le_trans (by rw [List.length_take]; exact Nat.min_le_right _ _) (Nat.le_of_not_lt hj4))]; exact fun z => nomatch z
                exact Wp.retI ok_fnd (t := .int) rfl (by decide) rfl rfl rfl ⟨by rw [ix_none hno], rfl⟩
              · replace ha3 : ¬ (3 : Int32) < (Int32.ofNat f) := ha3
                have g3 : f ≤ 3 := Nat.le_of_not_lt fun z => ha3 ((n_lt (i := 3) (by decide) (by omega)).mpr z)
                refine Wp.run ok_fnd 2 63 #[.val (.ref a), .val (.int (Int32.ofNat n)), .val (.int c), .val (.int (Int32.ofNat f))] [(.int (Int32.ofNat n)), (.int (3 : Int32))] rfl ?_
                refine Wp.icmp ok_fnd 75 rfl rfl (by decide) (by decide) (fun hb3 => ?_) (fun hb3 => ?_)
                · replace hb3 : ¬ (3 : Int32) < (Int32.ofNat n) := hb3
                  have N3 : f ≤ 3 → ([x0, x1, x2, x3].take n)[3]? ≠ some c := fun _ => by
                    have z : n ≤ 3 := Nat.le_of_not_lt fun z => hb3 ((n_lt (i := 3) (by decide) (by omega)).mpr z)
                    rw [List.getElem?_eq_none (by rw [List.length_take]; omega)]; exact fun y => nomatch y
                  refine Wp.run ok_fnd 1 76 #[.val (.ref a), .val (.int (Int32.ofNat n)), .val (.int c), .val (.int (Int32.ofNat f))] [(.int (-1 : Int32))] rfl ?_
                  have hno : ∀ i, f ≤ i → ([x0, x1, x2, x3].take n)[i]? ≠ some c := fun i hi => by
                    by_cases hj4 : i < 4
                    · obtain rfl | rfl | rfl | rfl : i = 0 ∨ i = 1 ∨ i = 2 ∨ i = 3 := by omega
                      · exact N0 hi
                      · exact N1 hi
                      · exact N2 hi
                      · exact N3 hi
                    · rw [List.getElem?_eq_none (Nat.le_trans (by rw [List.length_take]; exact Nat.min_le_right _ _) (Nat.le_of_not_lt hj4))]; exact fun z => nomatch z
                  exact Wp.retI ok_fnd (t := .int) rfl (by decide) rfl rfl rfl ⟨by rw [ix_none hno], rfl⟩
                · replace hb3 : (3 : Int32) < (Int32.ofNat n) := hb3
                  have e3 : ([x0, x1, x2, x3].take n)[3]? = some x3 := by
                    have z : 3 < n := (n_lt (i := 3) (by decide) (by omega)).mp hb3
                    rw [List.getElem?_take_of_lt z]; rfl
                  refine Wp.run ok_fnd 2 68 #[.val (.ref a), .val (.int (Int32.ofNat n)), .val (.int c), .val (.int (Int32.ofNat f))] [(.int (3 : Int32)), (.ref a)] rfl ?_
                  refine Wp.aget ok_fnd A (i := 3) (v := (.int x3)) rfl rfl rfl rfl rfl ?_
                  refine Wp.run ok_fnd 1 70 #[.val (.ref a), .val (.int (Int32.ofNat n)), .val (.int c), .val (.int (Int32.ofNat f))] [(.int c), (.int x3)] rfl ?_
                  refine Wp.icmp ok_fnd 75 rfl rfl (by decide) (by decide) (fun hc3 => ?_) (fun hc3 => ?_)
                  · replace hc3 : ¬ x3 = c := hc3
                    have N3 : f ≤ 3 → ([x0, x1, x2, x3].take n)[3]? ≠ some c := fun _ => by rw [e3]; exact fun y => hc3 (Option.some.inj y)
                    refine Wp.run ok_fnd 1 76 #[.val (.ref a), .val (.int (Int32.ofNat n)), .val (.int c), .val (.int (Int32.ofNat f))] [(.int (-1 : Int32))] rfl ?_
                    have hno : ∀ i, f ≤ i → ([x0, x1, x2, x3].take n)[i]? ≠ some c := fun i hi => by
                      by_cases hj4 : i < 4
                      · obtain rfl | rfl | rfl | rfl : i = 0 ∨ i = 1 ∨ i = 2 ∨ i = 3 := by omega
                        · exact N0 hi
                        · exact N1 hi
                        · exact N2 hi
                        · exact N3 hi
                      · rw [List.getElem?_eq_none (Nat.le_trans (by rw [List.length_take]; exact Nat.min_le_right _ _) (Nat.le_of_not_lt hj4))]; exact fun z => nomatch z
                    exact Wp.retI ok_fnd (t := .int) rfl (by decide) rfl rfl rfl ⟨by rw [ix_none hno], rfl⟩
                  · replace hc3 : x3 = c := hc3
                    have hno : ∀ i, f ≤ i → i < 3 → ([x0, x1, x2, x3].take n)[i]? ≠ some c := fun i h1 h2 => by
                      obtain rfl | rfl | rfl : i = 0 ∨ i = 1 ∨ i = 2 := by omega
                      · exact N0 h1
                      · exact N1 h1
                      · exact N2 h1
                    refine Wp.run ok_fnd 1 74 #[.val (.ref a), .val (.int (Int32.ofNat n)), .val (.int c), .val (.int (Int32.ofNat f))] [(.int (3 : Int32))] rfl ?_
                    exact Wp.retI ok_fnd (t := .int) rfl (by decide) rfl rfl rfl ⟨by rw [ix_hit g3 (by rw [e3, hc3]) hno]; rfl, rfl⟩
            · replace ha2 : ¬ (2 : Int32) < (Int32.ofNat f) := ha2
              have g2 : f ≤ 2 := Nat.le_of_not_lt fun z => ha2 ((n_lt (i := 2) (by decide) (by omega)).mpr z)
              refine Wp.run ok_fnd 2 44 #[.val (.ref a), .val (.int (Int32.ofNat n)), .val (.int c), .val (.int (Int32.ofNat f))] [(.int (Int32.ofNat n)), (.int (2 : Int32))] rfl ?_
              refine Wp.icmp ok_fnd 56 rfl rfl (by decide) (by decide) (fun hb2 => ?_) (fun hb2 => ?_)
              · replace hb2 : ¬ (2 : Int32) < (Int32.ofNat n) := hb2
                have N2 : f ≤ 2 → ([x0, x1, x2, x3].take n)[2]? ≠ some c := fun _ => by
                  have z : n ≤ 2 := Nat.le_of_not_lt fun z => hb2 ((n_lt (i := 2) (by decide) (by omega)).mpr z)
                  rw [List.getElem?_eq_none (by rw [List.length_take]; omega)]; exact fun y => nomatch y
                refine Wp.run ok_fnd 2 58 #[.val (.ref a), .val (.int (Int32.ofNat n)), .val (.int c), .val (.int (Int32.ofNat f))] [(.int (3 : Int32)), (.int (Int32.ofNat f))] rfl ?_
                refine Wp.icmp ok_fnd 75 rfl rfl (by decide) (by decide) (fun ha3 => ?_) (fun ha3 => ?_)
                · replace ha3 : (3 : Int32) < (Int32.ofNat f) := ha3
                  have N3 : f ≤ 3 → ([x0, x1, x2, x3].take n)[3]? ≠ some c := fun z => absurd ((n_lt (i := 3) (by decide) (by omega)).mp ha3) (by omega)
                  refine Wp.run ok_fnd 1 76 #[.val (.ref a), .val (.int (Int32.ofNat n)), .val (.int c), .val (.int (Int32.ofNat f))] [(.int (-1 : Int32))] rfl ?_
                  have hno : ∀ i, f ≤ i → ([x0, x1, x2, x3].take n)[i]? ≠ some c := fun i hi => by
                    by_cases hj4 : i < 4
                    · obtain rfl | rfl | rfl | rfl : i = 0 ∨ i = 1 ∨ i = 2 ∨ i = 3 := by omega
                      · exact N0 hi
                      · exact N1 hi
                      · exact N2 hi
                      · exact N3 hi
                    · rw [List.getElem?_eq_none (Nat.le_trans (by rw [List.length_take]; exact Nat.min_le_right _ _) (Nat.le_of_not_lt hj4))]; exact fun z => nomatch z
                  exact Wp.retI ok_fnd (t := .int) rfl (by decide) rfl rfl rfl ⟨by rw [ix_none hno], rfl⟩
                · replace ha3 : ¬ (3 : Int32) < (Int32.ofNat f) := ha3
                  have g3 : f ≤ 3 := Nat.le_of_not_lt fun z => ha3 ((n_lt (i := 3) (by decide) (by omega)).mpr z)
                  refine Wp.run ok_fnd 2 63 #[.val (.ref a), .val (.int (Int32.ofNat n)), .val (.int c), .val (.int (Int32.ofNat f))] [(.int (Int32.ofNat n)), (.int (3 : Int32))] rfl ?_
                  refine Wp.icmp ok_fnd 75 rfl rfl (by decide) (by decide) (fun hb3 => ?_) (fun hb3 => ?_)
                  · replace hb3 : ¬ (3 : Int32) < (Int32.ofNat n) := hb3
                    have N3 : f ≤ 3 → ([x0, x1, x2, x3].take n)[3]? ≠ some c := fun _ => by
                      have z : n ≤ 3 := Nat.le_of_not_lt fun z => hb3 ((n_lt (i := 3) (by decide) (by omega)).mpr z)
                      rw [List.getElem?_eq_none (by rw [List.length_take]; omega)]; exact fun y => nomatch y
                    refine Wp.run ok_fnd 1 76 #[.val (.ref a), .val (.int (Int32.ofNat n)), .val (.int c), .val (.int (Int32.ofNat f))] [(.int (-1 : Int32))] rfl ?_
                    have hno : ∀ i, f ≤ i → ([x0, x1, x2, x3].take n)[i]? ≠ some c := fun i hi => by
                      by_cases hj4 : i < 4
                      · obtain rfl | rfl | rfl | rfl : i = 0 ∨ i = 1 ∨ i = 2 ∨ i = 3 := by omega
                        · exact N0 hi
                        · exact N1 hi
                        · exact N2 hi
                        · exact N3 hi
                      · rw [List.getElem?_eq_none (Nat.le_trans (by rw [List.length_take]; exact Nat.min_le_right _ _) (Nat.le_of_not_lt hj4))]; exact fun z => nomatch z
                    exact Wp.retI ok_fnd (t := .int) rfl (by decide) rfl rfl rfl ⟨by rw [ix_none hno], rfl⟩
                  · replace hb3 : (3 : Int32) < (Int32.ofNat n) := hb3
                    have e3 : ([x0, x1, x2, x3].take n)[3]? = some x3 := by
                      have z : 3 < n := (n_lt (i := 3) (by decide) (by omega)).mp hb3
                      rw [List.getElem?_take_of_lt z]; rfl
                    refine Wp.run ok_fnd 2 68 #[.val (.ref a), .val (.int (Int32.ofNat n)), .val (.int c), .val (.int (Int32.ofNat f))] [(.int (3 : Int32)), (.ref a)] rfl ?_
                    refine Wp.aget ok_fnd A (i := 3) (v := (.int x3)) rfl rfl rfl rfl rfl ?_
                    refine Wp.run ok_fnd 1 70 #[.val (.ref a), .val (.int (Int32.ofNat n)), .val (.int c), .val (.int (Int32.ofNat f))] [(.int c), (.int x3)] rfl ?_
                    refine Wp.icmp ok_fnd 75 rfl rfl (by decide) (by decide) (fun hc3 => ?_) (fun hc3 => ?_)
                    · replace hc3 : ¬ x3 = c := hc3
                      have N3 : f ≤ 3 → ([x0, x1, x2, x3].take n)[3]? ≠ some c := fun _ => by rw [e3]; exact fun y => hc3 (Option.some.inj y)
                      refine Wp.run ok_fnd 1 76 #[.val (.ref a), .val (.int (Int32.ofNat n)), .val (.int c), .val (.int (Int32.ofNat f))] [(.int (-1 : Int32))] rfl ?_
                      have hno : ∀ i, f ≤ i → ([x0, x1, x2, x3].take n)[i]? ≠ some c := fun i hi => by
                        by_cases hj4 : i < 4
                        · obtain rfl | rfl | rfl | rfl : i = 0 ∨ i = 1 ∨ i = 2 ∨ i = 3 := by omega
                          · exact N0 hi
                          · exact N1 hi
                          · exact N2 hi
                          · exact N3 hi
                        · rw [List.getElem?_eq_none (Nat.le_trans (by rw [List.length_take]; exact Nat.min_le_right _ _) (Nat.le_of_not_lt hj4))]; exact fun z => nomatch z
                      exact Wp.retI ok_fnd (t := .int) rfl (by decide) rfl rfl rfl ⟨by rw [ix_none hno], rfl⟩
                    · replace hc3 : x3 = c := hc3
                      have hno : ∀ i, f ≤ i → i < 3 → ([x0, x1, x2, x3].take n)[i]? ≠ some c := fun i h1 h2 => by
                        obtain rfl | rfl | rfl : i = 0 ∨ i = 1 ∨ i = 2 := by omega
                        · exact N0 h1
                        · exact N1 h1
                        · exact N2 h1
                      refine Wp.run ok_fnd 1 74 #[.val (.ref a), .val (.int (Int32.ofNat n)), .val (.int c), .val (.int (Int32.ofNat f))] [(.int (3 : Int32))] rfl ?_
                      exact Wp.retI ok_fnd (t := .int) rfl (by decide) rfl rfl rfl ⟨by rw [ix_hit g3 (by rw [e3, hc3]) hno]; rfl, rfl⟩
              · replace hb2 : (2 : Int32) < (Int32.ofNat n) := hb2
                have e2 : ([x0, x1, x2, x3].take n)[2]? = some x2 := by
                  have z : 2 < n := (n_lt (i := 2) (by decide) (by omega)).mp hb2
                  rw [List.getElem?_take_of_lt z]; rfl
                refine Wp.run ok_fnd 2 49 #[.val (.ref a), .val (.int (Int32.ofNat n)), .val (.int c), .val (.int (Int32.ofNat f))] [(.int (2 : Int32)), (.ref a)] rfl ?_
                refine Wp.aget ok_fnd A (i := 2) (v := (.int x2)) rfl rfl rfl rfl rfl ?_
                refine Wp.run ok_fnd 1 51 #[.val (.ref a), .val (.int (Int32.ofNat n)), .val (.int c), .val (.int (Int32.ofNat f))] [(.int c), (.int x2)] rfl ?_
                refine Wp.icmp ok_fnd 56 rfl rfl (by decide) (by decide) (fun hc2 => ?_) (fun hc2 => ?_)
                · replace hc2 : ¬ x2 = c := hc2
                  have N2 : f ≤ 2 → ([x0, x1, x2, x3].take n)[2]? ≠ some c := fun _ => by rw [e2]; exact fun y => hc2 (Option.some.inj y)
                  refine Wp.run ok_fnd 2 58 #[.val (.ref a), .val (.int (Int32.ofNat n)), .val (.int c), .val (.int (Int32.ofNat f))] [(.int (3 : Int32)), (.int (Int32.ofNat f))] rfl ?_
                  refine Wp.icmp ok_fnd 75 rfl rfl (by decide) (by decide) (fun ha3 => ?_) (fun ha3 => ?_)
                  · replace ha3 : (3 : Int32) < (Int32.ofNat f) := ha3
                    have N3 : f ≤ 3 → ([x0, x1, x2, x3].take n)[3]? ≠ some c := fun z => absurd ((n_lt (i := 3) (by decide) (by omega)).mp ha3) (by omega)
                    refine Wp.run ok_fnd 1 76 #[.val (.ref a), .val (.int (Int32.ofNat n)), .val (.int c), .val (.int (Int32.ofNat f))] [(.int (-1 : Int32))] rfl ?_
                    have hno : ∀ i, f ≤ i → ([x0, x1, x2, x3].take n)[i]? ≠ some c := fun i hi => by
                      by_cases hj4 : i < 4
                      · obtain rfl | rfl | rfl | rfl : i = 0 ∨ i = 1 ∨ i = 2 ∨ i = 3 := by omega
                        · exact N0 hi
                        · exact N1 hi
                        · exact N2 hi
                        · exact N3 hi
                      · rw [List.getElem?_eq_none (Nat.le_trans (by rw [List.length_take]; exact Nat.min_le_right _ _) (Nat.le_of_not_lt hj4))]; exact fun z => nomatch z
                    exact Wp.retI ok_fnd (t := .int) rfl (by decide) rfl rfl rfl ⟨by rw [ix_none hno], rfl⟩
                  · replace ha3 : ¬ (3 : Int32) < (Int32.ofNat f) := ha3
                    have g3 : f ≤ 3 := Nat.le_of_not_lt fun z => ha3 ((n_lt (i := 3) (by decide) (by omega)).mpr z)
                    refine Wp.run ok_fnd 2 63 #[.val (.ref a), .val (.int (Int32.ofNat n)), .val (.int c), .val (.int (Int32.ofNat f))] [(.int (Int32.ofNat n)), (.int (3 : Int32))] rfl ?_
                    refine Wp.icmp ok_fnd 75 rfl rfl (by decide) (by decide) (fun hb3 => ?_) (fun hb3 => ?_)
                    · replace hb3 : ¬ (3 : Int32) < (Int32.ofNat n) := hb3
                      have N3 : f ≤ 3 → ([x0, x1, x2, x3].take n)[3]? ≠ some c := fun _ => by
                        have z : n ≤ 3 := Nat.le_of_not_lt fun z => hb3 ((n_lt (i := 3) (by decide) (by omega)).mpr z)
                        rw [List.getElem?_eq_none (by rw [List.length_take]; omega)]; exact fun y => nomatch y
                      refine Wp.run ok_fnd 1 76 #[.val (.ref a), .val (.int (Int32.ofNat n)), .val (.int c), .val (.int (Int32.ofNat f))] [(.int (-1 : Int32))] rfl ?_
                      have hno : ∀ i, f ≤ i → ([x0, x1, x2, x3].take n)[i]? ≠ some c := fun i hi => by
                        by_cases hj4 : i < 4
                        · obtain rfl | rfl | rfl | rfl : i = 0 ∨ i = 1 ∨ i = 2 ∨ i = 3 := by omega
                          · exact N0 hi
                          · exact N1 hi
                          · exact N2 hi
                          · exact N3 hi
                        · rw [List.getElem?_eq_none (Nat.le_trans (by rw [List.length_take]; exact Nat.min_le_right _ _) (Nat.le_of_not_lt hj4))]; exact fun z => nomatch z
                      exact Wp.retI ok_fnd (t := .int) rfl (by decide) rfl rfl rfl ⟨by rw [ix_none hno], rfl⟩
                    · replace hb3 : (3 : Int32) < (Int32.ofNat n) := hb3
                      have e3 : ([x0, x1, x2, x3].take n)[3]? = some x3 := by
                        have z : 3 < n := (n_lt (i := 3) (by decide) (by omega)).mp hb3
                        rw [List.getElem?_take_of_lt z]; rfl
                      refine Wp.run ok_fnd 2 68 #[.val (.ref a), .val (.int (Int32.ofNat n)), .val (.int c), .val (.int (Int32.ofNat f))] [(.int (3 : Int32)), (.ref a)] rfl ?_
                      refine Wp.aget ok_fnd A (i := 3) (v := (.int x3)) rfl rfl rfl rfl rfl ?_
                      refine Wp.run ok_fnd 1 70 #[.val (.ref a), .val (.int (Int32.ofNat n)), .val (.int c), .val (.int (Int32.ofNat f))] [(.int c), (.int x3)] rfl ?_
                      refine Wp.icmp ok_fnd 75 rfl rfl (by decide) (by decide) (fun hc3 => ?_) (fun hc3 => ?_)
                      · replace hc3 : ¬ x3 = c := hc3
                        have N3 : f ≤ 3 → ([x0, x1, x2, x3].take n)[3]? ≠ some c := fun _ => by rw [e3]; exact fun y => hc3 (Option.some.inj y)
                        refine Wp.run ok_fnd 1 76 #[.val (.ref a), .val (.int (Int32.ofNat n)), .val (.int c), .val (.int (Int32.ofNat f))] [(.int (-1 : Int32))] rfl ?_
                        have hno : ∀ i, f ≤ i → ([x0, x1, x2, x3].take n)[i]? ≠ some c := fun i hi => by
                          by_cases hj4 : i < 4
                          · obtain rfl | rfl | rfl | rfl : i = 0 ∨ i = 1 ∨ i = 2 ∨ i = 3 := by omega
                            · exact N0 hi
                            · exact N1 hi
                            · exact N2 hi
                            · exact N3 hi
                          · rw [List.getElem?_eq_none (Nat.le_trans (by rw [List.length_take]; exact Nat.min_le_right _ _) (Nat.le_of_not_lt hj4))]; exact fun z => nomatch z
                        exact Wp.retI ok_fnd (t := .int) rfl (by decide) rfl rfl rfl ⟨by rw [ix_none hno], rfl⟩
                      · replace hc3 : x3 = c := hc3
                        have hno : ∀ i, f ≤ i → i < 3 → ([x0, x1, x2, x3].take n)[i]? ≠ some c := fun i h1 h2 => by
                          obtain rfl | rfl | rfl : i = 0 ∨ i = 1 ∨ i = 2 := by omega
                          · exact N0 h1
                          · exact N1 h1
                          · exact N2 h1
                        refine Wp.run ok_fnd 1 74 #[.val (.ref a), .val (.int (Int32.ofNat n)), .val (.int c), .val (.int (Int32.ofNat f))] [(.int (3 : Int32))] rfl ?_
                        exact Wp.retI ok_fnd (t := .int) rfl (by decide) rfl rfl rfl ⟨by rw [ix_hit g3 (by rw [e3, hc3]) hno]; rfl, rfl⟩
                · replace hc2 : x2 = c := hc2
                  have hno : ∀ i, f ≤ i → i < 2 → ([x0, x1, x2, x3].take n)[i]? ≠ some c := fun i h1 h2 => by
                    obtain rfl | rfl : i = 0 ∨ i = 1 := by omega
                    · exact N0 h1
                    · exact N1 h1
                  refine Wp.run ok_fnd 1 55 #[.val (.ref a), .val (.int (Int32.ofNat n)), .val (.int c), .val (.int (Int32.ofNat f))] [(.int (2 : Int32))] rfl ?_
                  exact Wp.retI ok_fnd (t := .int) rfl (by decide) rfl rfl rfl ⟨by rw [ix_hit g2 (by rw [e2, hc2]) hno]; rfl, rfl⟩
          · replace hc1 : x1 = c := hc1
            have hno : ∀ i, f ≤ i → i < 1 → ([x0, x1, x2, x3].take n)[i]? ≠ some c := fun i h1 h2 => by
              obtain rfl : i = 0 := by omega
              exact N0 h1
            refine Wp.run ok_fnd 1 36 #[.val (.ref a), .val (.int (Int32.ofNat n)), .val (.int c), .val (.int (Int32.ofNat f))] [(.int (1 : Int32))] rfl ?_
            exact Wp.retI ok_fnd (t := .int) rfl (by decide) rfl rfl rfl ⟨by rw [ix_hit g1 (by rw [e1, hc1]) hno]; rfl, rfl⟩
    · replace hb0 : (0 : Int32) < (Int32.ofNat n) := hb0
      have e0 : ([x0, x1, x2, x3].take n)[0]? = some x0 := by
        have z : 0 < n := (n_lt (i := 0) (by decide) (by omega)).mp hb0
        rw [List.getElem?_take_of_lt z]; rfl
      refine Wp.run ok_fnd 2 11 #[.val (.ref a), .val (.int (Int32.ofNat n)), .val (.int c), .val (.int (Int32.ofNat f))] [(.int (0 : Int32)), (.ref a)] rfl ?_
      refine Wp.aget ok_fnd A (i := 0) (v := (.int x0)) rfl rfl rfl rfl rfl ?_
      refine Wp.run ok_fnd 1 13 #[.val (.ref a), .val (.int (Int32.ofNat n)), .val (.int c), .val (.int (Int32.ofNat f))] [(.int c), (.int x0)] rfl ?_
      refine Wp.icmp ok_fnd 18 rfl rfl (by decide) (by decide) (fun hc0 => ?_) (fun hc0 => ?_)
      · replace hc0 : ¬ x0 = c := hc0
        have N0 : f ≤ 0 → ([x0, x1, x2, x3].take n)[0]? ≠ some c := fun _ => by rw [e0]; exact fun y => hc0 (Option.some.inj y)
        refine Wp.run ok_fnd 2 20 #[.val (.ref a), .val (.int (Int32.ofNat n)), .val (.int c), .val (.int (Int32.ofNat f))] [(.int (1 : Int32)), (.int (Int32.ofNat f))] rfl ?_
        refine Wp.icmp ok_fnd 37 rfl rfl (by decide) (by decide) (fun ha1 => ?_) (fun ha1 => ?_)
        · replace ha1 : (1 : Int32) < (Int32.ofNat f) := ha1
          have N1 : f ≤ 1 → ([x0, x1, x2, x3].take n)[1]? ≠ some c := fun z => absurd ((n_lt (i := 1) (by decide) (by omega)).mp ha1) (by omega)
          refine Wp.run ok_fnd 2 39 #[.val (.ref a), .val (.int (Int32.ofNat n)), .val (.int c), .val (.int (Int32.ofNat f))] [(.int (2 : Int32)), (.int (Int32.ofNat f))] rfl ?_
          refine Wp.icmp ok_fnd 56 rfl rfl (by decide) (by decide) (fun ha2 => ?_) (fun ha2 => ?_)
          · replace ha2 : (2 : Int32) < (Int32.ofNat f) := ha2
            have N2 : f ≤ 2 → ([x0, x1, x2, x3].take n)[2]? ≠ some c := fun z => absurd ((n_lt (i := 2) (by decide) (by omega)).mp ha2) (by omega)
            refine Wp.run ok_fnd 2 58 #[.val (.ref a), .val (.int (Int32.ofNat n)), .val (.int c), .val (.int (Int32.ofNat f))] [(.int (3 : Int32)), (.int (Int32.ofNat f))] rfl ?_
            refine Wp.icmp ok_fnd 75 rfl rfl (by decide) (by decide) (fun ha3 => ?_) (fun ha3 => ?_)
            · replace ha3 : (3 : Int32) < (Int32.ofNat f) := ha3
              have N3 : f ≤ 3 → ([x0, x1, x2, x3].take n)[3]? ≠ some c := fun z => absurd ((n_lt (i := 3) (by decide) (by omega)).mp ha3) (by omega)
              refine Wp.run ok_fnd 1 76 #[.val (.ref a), .val (.int (Int32.ofNat n)), .val (.int c), .val (.int (Int32.ofNat f))] [(.int (-1 : Int32))] rfl ?_
              have hno : ∀ i, f ≤ i → ([x0, x1, x2, x3].take n)[i]? ≠ some c := fun i hi => by
                by_cases hj4 : i < 4
                · obtain rfl | rfl | rfl | rfl : i = 0 ∨ i = 1 ∨ i = 2 ∨ i = 3 := by omega
                  · exact N0 hi
                  · exact N1 hi
                  · exact N2 hi
                  · exact N3 hi
                · rw [List.getElem?_eq_none (Nat.le_trans (by rw [List.length_take]; exact Nat.min_le_right _ _) (Nat.le_of_not_lt hj4))]; exact fun z => nomatch z
              exact Wp.retI ok_fnd (t := .int) rfl (by decide) rfl rfl rfl ⟨by rw [ix_none hno], rfl⟩
            · replace ha3 : ¬ (3 : Int32) < (Int32.ofNat f) := ha3
              have g3 : f ≤ 3 := Nat.le_of_not_lt fun z => ha3 ((n_lt (i := 3) (by decide) (by omega)).mpr z)
              refine Wp.run ok_fnd 2 63 #[.val (.ref a), .val (.int (Int32.ofNat n)), .val (.int c), .val (.int (Int32.ofNat f))] [(.int (Int32.ofNat n)), (.int (3 : Int32))] rfl ?_
              refine Wp.icmp ok_fnd 75 rfl rfl (by decide) (by decide) (fun hb3 => ?_) (fun hb3 => ?_)
              · replace hb3 : ¬ (3 : Int32) < (Int32.ofNat n) := hb3
                have N3 : f ≤ 3 → ([x0, x1, x2, x3].take n)[3]? ≠ some c := fun _ => by
                  have z : n ≤ 3 := Nat.le_of_not_lt fun z => hb3 ((n_lt (i := 3) (by decide) (by omega)).mpr z)
                  rw [List.getElem?_eq_none (by rw [List.length_take]; omega)]; exact fun y => nomatch y
                refine Wp.run ok_fnd 1 76 #[.val (.ref a), .val (.int (Int32.ofNat n)), .val (.int c), .val (.int (Int32.ofNat f))] [(.int (-1 : Int32))] rfl ?_
                have hno : ∀ i, f ≤ i → ([x0, x1, x2, x3].take n)[i]? ≠ some c := fun i hi => by
                  by_cases hj4 : i < 4
                  · obtain rfl | rfl | rfl | rfl : i = 0 ∨ i = 1 ∨ i = 2 ∨ i = 3 := by omega
                    · exact N0 hi
                    · exact N1 hi
                    · exact N2 hi
                    · exact N3 hi
                  · rw [List.getElem?_eq_none (Nat.le_trans (by rw [List.length_take]; exact Nat.min_le_right _ _) (Nat.le_of_not_lt hj4))]; exact fun z => nomatch z
                exact Wp.retI ok_fnd (t := .int) rfl (by decide) rfl rfl rfl ⟨by rw [ix_none hno], rfl⟩
              · replace hb3 : (3 : Int32) < (Int32.ofNat n) := hb3
                have e3 : ([x0, x1, x2, x3].take n)[3]? = some x3 := by
                  have z : 3 < n := (n_lt (i := 3) (by decide) (by omega)).mp hb3
                  rw [List.getElem?_take_of_lt z]; rfl
                refine Wp.run ok_fnd 2 68 #[.val (.ref a), .val (.int (Int32.ofNat n)), .val (.int c), .val (.int (Int32.ofNat f))] [(.int (3 : Int32)), (.ref a)] rfl ?_
                refine Wp.aget ok_fnd A (i := 3) (v := (.int x3)) rfl rfl rfl rfl rfl ?_
                refine Wp.run ok_fnd 1 70 #[.val (.ref a), .val (.int (Int32.ofNat n)), .val (.int c), .val (.int (Int32.ofNat f))] [(.int c), (.int x3)] rfl ?_
                refine Wp.icmp ok_fnd 75 rfl rfl (by decide) (by decide) (fun hc3 => ?_) (fun hc3 => ?_)
                · replace hc3 : ¬ x3 = c := hc3
                  have N3 : f ≤ 3 → ([x0, x1, x2, x3].take n)[3]? ≠ some c := fun _ => by rw [e3]; exact fun y => hc3 (Option.some.inj y)
                  refine Wp.run ok_fnd 1 76 #[.val (.ref a), .val (.int (Int32.ofNat n)), .val (.int c), .val (.int (Int32.ofNat f))] [(.int (-1 : Int32))] rfl ?_
                  have hno : ∀ i, f ≤ i → ([x0, x1, x2, x3].take n)[i]? ≠ some c := fun i hi => by
                    by_cases hj4 : i < 4
                    · obtain rfl | rfl | rfl | rfl : i = 0 ∨ i = 1 ∨ i = 2 ∨ i = 3 := by omega
                      · exact N0 hi
                      · exact N1 hi
                      · exact N2 hi
                      · exact N3 hi
                    · rw [List.getElem?_eq_none (Nat.le_trans (by rw [List.length_take]; exact Nat.min_le_right _ _) (Nat.le_of_not_lt hj4))]; exact fun z => nomatch z
                  exact Wp.retI ok_fnd (t := .int) rfl (by decide) rfl rfl rfl ⟨by rw [ix_none hno], rfl⟩
                · replace hc3 : x3 = c := hc3
                  have hno : ∀ i, f ≤ i → i < 3 → ([x0, x1, x2, x3].take n)[i]? ≠ some c := fun i h1 h2 => by
                    obtain rfl | rfl | rfl : i = 0 ∨ i = 1 ∨ i = 2 := by omega
                    · exact N0 h1
                    · exact N1 h1
                    · exact N2 h1
                  refine Wp.run ok_fnd 1 74 #[.val (.ref a), .val (.int (Int32.ofNat n)), .val (.int c), .val (.int (Int32.ofNat f))] [(.int (3 : Int32))] rfl ?_
                  exact Wp.retI ok_fnd (t := .int) rfl (by decide) rfl rfl rfl ⟨by rw [ix_hit g3 (by rw [e3, hc3]) hno]; rfl, rfl⟩
          · replace ha2 : ¬ (2 : Int32) < (Int32.ofNat f) := ha2
            have g2 : f ≤ 2 := Nat.le_of_not_lt fun z => ha2 ((n_lt (i := 2) (by decide) (by omega)).mpr z)
            refine Wp.run ok_fnd 2 44 #[.val (.ref a), .val (.int (Int32.ofNat n)), .val (.int c), .val (.int (Int32.ofNat f))] [(.int (Int32.ofNat n)), (.int (2 : Int32))] rfl ?_
            refine Wp.icmp ok_fnd 56 rfl rfl (by decide) (by decide) (fun hb2 => ?_) (fun hb2 => ?_)
            · replace hb2 : ¬ (2 : Int32) < (Int32.ofNat n) := hb2
              have N2 : f ≤ 2 → ([x0, x1, x2, x3].take n)[2]? ≠ some c := fun _ => by
                have z : n ≤ 2 := Nat.le_of_not_lt fun z => hb2 ((n_lt (i := 2) (by decide) (by omega)).mpr z)
                rw [List.getElem?_eq_none (by rw [List.length_take]; omega)]; exact fun y => nomatch y
              refine Wp.run ok_fnd 2 58 #[.val (.ref a), .val (.int (Int32.ofNat n)), .val (.int c), .val (.int (Int32.ofNat f))] [(.int (3 : Int32)), (.int (Int32.ofNat f))] rfl ?_
              refine Wp.icmp ok_fnd 75 rfl rfl (by decide) (by decide) (fun ha3 => ?_) (fun ha3 => ?_)
              · replace ha3 : (3 : Int32) < (Int32.ofNat f) := ha3
                have N3 : f ≤ 3 → ([x0, x1, x2, x3].take n)[3]? ≠ some c := fun z => absurd ((n_lt (i := 3) (by decide) (by omega)).mp ha3) (by omega)
                refine Wp.run ok_fnd 1 76 #[.val (.ref a), .val (.int (Int32.ofNat n)), .val (.int c), .val (.int (Int32.ofNat f))] [(.int (-1 : Int32))] rfl ?_
                have hno : ∀ i, f ≤ i → ([x0, x1, x2, x3].take n)[i]? ≠ some c := fun i hi => by
                  by_cases hj4 : i < 4
                  · obtain rfl | rfl | rfl | rfl : i = 0 ∨ i = 1 ∨ i = 2 ∨ i = 3 := by omega
                    · exact N0 hi
                    · exact N1 hi
                    · exact N2 hi
                    · exact N3 hi
                  · rw [List.getElem?_eq_none (Nat.le_trans (by rw [List.length_take]; exact Nat.min_le_right _ _) (Nat.le_of_not_lt hj4))]; exact fun z => nomatch z
                exact Wp.retI ok_fnd (t := .int) rfl (by decide) rfl rfl rfl ⟨by rw [ix_none hno], rfl⟩
              · replace ha3 : ¬ (3 : Int32) < (Int32.ofNat f) := ha3
                have g3 : f ≤ 3 := Nat.le_of_not_lt fun z => ha3 ((n_lt (i := 3) (by decide) (by omega)).mpr z)
                refine Wp.run ok_fnd 2 63 #[.val (.ref a), .val (.int (Int32.ofNat n)), .val (.int c), .val (.int (Int32.ofNat f))] [(.int (Int32.ofNat n)), (.int (3 : Int32))] rfl ?_
                refine Wp.icmp ok_fnd 75 rfl rfl (by decide) (by decide) (fun hb3 => ?_) (fun hb3 => ?_)
                · replace hb3 : ¬ (3 : Int32) < (Int32.ofNat n) := hb3
                  have N3 : f ≤ 3 → ([x0, x1, x2, x3].take n)[3]? ≠ some c := fun _ => by
                    have z : n ≤ 3 := Nat.le_of_not_lt fun z => hb3 ((n_lt (i := 3) (by decide) (by omega)).mpr z)
                    rw [List.getElem?_eq_none (by rw [List.length_take]; omega)]; exact fun y => nomatch y
                  refine Wp.run ok_fnd 1 76 #[.val (.ref a), .val (.int (Int32.ofNat n)), .val (.int c), .val (.int (Int32.ofNat f))] [(.int (-1 : Int32))] rfl ?_
                  have hno : ∀ i, f ≤ i → ([x0, x1, x2, x3].take n)[i]? ≠ some c := fun i hi => by
                    by_cases hj4 : i < 4
                    · obtain rfl | rfl | rfl | rfl : i = 0 ∨ i = 1 ∨ i = 2 ∨ i = 3 := by omega
                      · exact N0 hi
                      · exact N1 hi
                      · exact N2 hi
                      · exact N3 hi
                    · rw [List.getElem?_eq_none (Nat.le_trans (by rw [List.length_take]; exact Nat.min_le_right _ _) (Nat.le_of_not_lt hj4))]; exact fun z => nomatch z
                  exact Wp.retI ok_fnd (t := .int) rfl (by decide) rfl rfl rfl ⟨by rw [ix_none hno], rfl⟩
                · replace hb3 : (3 : Int32) < (Int32.ofNat n) := hb3
                  have e3 : ([x0, x1, x2, x3].take n)[3]? = some x3 := by
                    have z : 3 < n := (n_lt (i := 3) (by decide) (by omega)).mp hb3
                    rw [List.getElem?_take_of_lt z]; rfl
                  refine Wp.run ok_fnd 2 68 #[.val (.ref a), .val (.int (Int32.ofNat n)), .val (.int c), .val (.int (Int32.ofNat f))] [(.int (3 : Int32)), (.ref a)] rfl ?_
                  refine Wp.aget ok_fnd A (i := 3) (v := (.int x3)) rfl rfl rfl rfl rfl ?_
                  refine Wp.run ok_fnd 1 70 #[.val (.ref a), .val (.int (Int32.ofNat n)), .val (.int c), .val (.int (Int32.ofNat f))] [(.int c), (.int x3)] rfl ?_
                  refine Wp.icmp ok_fnd 75 rfl rfl (by decide) (by decide) (fun hc3 => ?_) (fun hc3 => ?_)
                  · replace hc3 : ¬ x3 = c := hc3
                    have N3 : f ≤ 3 → ([x0, x1, x2, x3].take n)[3]? ≠ some c := fun _ => by rw [e3]; exact fun y => hc3 (Option.some.inj y)
                    refine Wp.run ok_fnd 1 76 #[.val (.ref a), .val (.int (Int32.ofNat n)), .val (.int c), .val (.int (Int32.ofNat f))] [(.int (-1 : Int32))] rfl ?_
                    have hno : ∀ i, f ≤ i → ([x0, x1, x2, x3].take n)[i]? ≠ some c := fun i hi => by
                      by_cases hj4 : i < 4
                      · obtain rfl | rfl | rfl | rfl : i = 0 ∨ i = 1 ∨ i = 2 ∨ i = 3 := by omega
                        · exact N0 hi
                        · exact N1 hi
                        · exact N2 hi
                        · exact N3 hi
                      · rw [List.getElem?_eq_none (Nat.le_trans (by rw [List.length_take]; exact Nat.min_le_right _ _) (Nat.le_of_not_lt hj4))]; exact fun z => nomatch z
                    exact Wp.retI ok_fnd (t := .int) rfl (by decide) rfl rfl rfl ⟨by rw [ix_none hno], rfl⟩
                  · replace hc3 : x3 = c := hc3
                    have hno : ∀ i, f ≤ i → i < 3 → ([x0, x1, x2, x3].take n)[i]? ≠ some c := fun i h1 h2 => by
                      obtain rfl | rfl | rfl : i = 0 ∨ i = 1 ∨ i = 2 := by omega
                      · exact N0 h1
                      · exact N1 h1
                      · exact N2 h1
                    refine Wp.run ok_fnd 1 74 #[.val (.ref a), .val (.int (Int32.ofNat n)), .val (.int c), .val (.int (Int32.ofNat f))] [(.int (3 : Int32))] rfl ?_
                    exact Wp.retI ok_fnd (t := .int) rfl (by decide) rfl rfl rfl ⟨by rw [ix_hit g3 (by rw [e3, hc3]) hno]; rfl, rfl⟩
            · replace hb2 : (2 : Int32) < (Int32.ofNat n) := hb2
              have e2 : ([x0, x1, x2, x3].take n)[2]? = some x2 := by
                have z : 2 < n := (n_lt (i := 2) (by decide) (by omega)).mp hb2
                rw [List.getElem?_take_of_lt z]; rfl
              refine Wp.run ok_fnd 2 49 #[.val (.ref a), .val (.int (Int32.ofNat n)), .val (.int c), .val (.int (Int32.ofNat f))] [(.int (2 : Int32)), (.ref a)] rfl ?_
              refine Wp.aget ok_fnd A (i := 2) (v := (.int x2)) rfl rfl rfl rfl rfl ?_
              refine Wp.run ok_fnd 1 51 #[.val (.ref a), .val (.int (Int32.ofNat n)), .val (.int c), .val (.int (Int32.ofNat f))] [(.int c), (.int x2)] rfl ?_
              refine Wp.icmp ok_fnd 56 rfl rfl (by decide) (by decide) (fun hc2 => ?_) (fun hc2 => ?_)
              · replace hc2 : ¬ x2 = c := hc2
                have N2 : f ≤ 2 → ([x0, x1, x2, x3].take n)[2]? ≠ some c := fun _ => by rw [e2]; exact fun y => hc2 (Option.some.inj y)
                refine Wp.run ok_fnd 2 58 #[.val (.ref a), .val (.int (Int32.ofNat n)), .val (.int c), .val (.int (Int32.ofNat f))] [(.int (3 : Int32)), (.int (Int32.ofNat f))] rfl ?_
                refine Wp.icmp ok_fnd 75 rfl rfl (by decide) (by decide) (fun ha3 => ?_) (fun ha3 => ?_)
                · replace ha3 : (3 : Int32) < (Int32.ofNat f) := ha3
                  have N3 : f ≤ 3 → ([x0, x1, x2, x3].take n)[3]? ≠ some c := fun z => absurd ((n_lt (i := 3) (by decide) (by omega)).mp ha3) (by omega)
                  refine Wp.run ok_fnd 1 76 #[.val (.ref a), .val (.int (Int32.ofNat n)), .val (.int c), .val (.int (Int32.ofNat f))] [(.int (-1 : Int32))] rfl ?_
                  have hno : ∀ i, f ≤ i → ([x0, x1, x2, x3].take n)[i]? ≠ some c := fun i hi => by
                    by_cases hj4 : i < 4
                    · obtain rfl | rfl | rfl | rfl : i = 0 ∨ i = 1 ∨ i = 2 ∨ i = 3 := by omega
                      · exact N0 hi
                      · exact N1 hi
                      · exact N2 hi
                      · exact N3 hi
                    · rw [List.getElem?_eq_none (Nat.le_trans (by rw [List.length_take]; exact Nat.min_le_right _ _) (Nat.le_of_not_lt hj4))]; exact fun z => nomatch z
                  exact Wp.retI ok_fnd (t := .int) rfl (by decide) rfl rfl rfl ⟨by rw [ix_none hno], rfl⟩
                · replace ha3 : ¬ (3 : Int32) < (Int32.ofNat f) := ha3
                  have g3 : f ≤ 3 := Nat.le_of_not_lt fun z => ha3 ((n_lt (i := 3) (by decide) (by omega)).mpr z)
                  refine Wp.run ok_fnd 2 63 #[.val (.ref a), .val (.int (Int32.ofNat n)), .val (.int c), .val (.int (Int32.ofNat f))] [(.int (Int32.ofNat n)), (.int (3 : Int32))] rfl ?_
                  refine Wp.icmp ok_fnd 75 rfl rfl (by decide) (by decide) (fun hb3 => ?_) (fun hb3 => ?_)
                  · replace hb3 : ¬ (3 : Int32) < (Int32.ofNat n) := hb3
                    have N3 : f ≤ 3 → ([x0, x1, x2, x3].take n)[3]? ≠ some c := fun _ => by
                      have z : n ≤ 3 := Nat.le_of_not_lt fun z => hb3 ((n_lt (i := 3) (by decide) (by omega)).mpr z)
                      rw [List.getElem?_eq_none (by rw [List.length_take]; omega)]; exact fun y => nomatch y
                    refine Wp.run ok_fnd 1 76 #[.val (.ref a), .val (.int (Int32.ofNat n)), .val (.int c), .val (.int (Int32.ofNat f))] [(.int (-1 : Int32))] rfl ?_
                    have hno : ∀ i, f ≤ i → ([x0, x1, x2, x3].take n)[i]? ≠ some c := fun i hi => by
                      by_cases hj4 : i < 4
                      · obtain rfl | rfl | rfl | rfl : i = 0 ∨ i = 1 ∨ i = 2 ∨ i = 3 := by omega
                        · exact N0 hi
                        · exact N1 hi
                        · exact N2 hi
                        · exact N3 hi
                      · rw [List.getElem?_eq_none (Nat.le_trans (by rw [List.length_take]; exact Nat.min_le_right _ _) (Nat.le_of_not_lt hj4))]; exact fun z => nomatch z
                    exact Wp.retI ok_fnd (t := .int) rfl (by decide) rfl rfl rfl ⟨by rw [ix_none hno], rfl⟩
                  · replace hb3 : (3 : Int32) < (Int32.ofNat n) := hb3
                    have e3 : ([x0, x1, x2, x3].take n)[3]? = some x3 := by
                      have z : 3 < n := (n_lt (i := 3) (by decide) (by omega)).mp hb3
                      rw [List.getElem?_take_of_lt z]; rfl
                    refine Wp.run ok_fnd 2 68 #[.val (.ref a), .val (.int (Int32.ofNat n)), .val (.int c), .val (.int (Int32.ofNat f))] [(.int (3 : Int32)), (.ref a)] rfl ?_
                    refine Wp.aget ok_fnd A (i := 3) (v := (.int x3)) rfl rfl rfl rfl rfl ?_
                    refine Wp.run ok_fnd 1 70 #[.val (.ref a), .val (.int (Int32.ofNat n)), .val (.int c), .val (.int (Int32.ofNat f))] [(.int c), (.int x3)] rfl ?_
                    refine Wp.icmp ok_fnd 75 rfl rfl (by decide) (by decide) (fun hc3 => ?_) (fun hc3 => ?_)
                    · replace hc3 : ¬ x3 = c := hc3
                      have N3 : f ≤ 3 → ([x0, x1, x2, x3].take n)[3]? ≠ some c := fun _ => by rw [e3]; exact fun y => hc3 (Option.some.inj y)
                      refine Wp.run ok_fnd 1 76 #[.val (.ref a), .val (.int (Int32.ofNat n)), .val (.int c), .val (.int (Int32.ofNat f))] [(.int (-1 : Int32))] rfl ?_
                      have hno : ∀ i, f ≤ i → ([x0, x1, x2, x3].take n)[i]? ≠ some c := fun i hi => by
                        by_cases hj4 : i < 4
                        · obtain rfl | rfl | rfl | rfl : i = 0 ∨ i = 1 ∨ i = 2 ∨ i = 3 := by omega
                          · exact N0 hi
                          · exact N1 hi
                          · exact N2 hi
                          · exact N3 hi
                        · rw [List.getElem?_eq_none (Nat.le_trans (by rw [List.length_take]; exact Nat.min_le_right _ _) (Nat.le_of_not_lt hj4))]; exact fun z => nomatch z
                      exact Wp.retI ok_fnd (t := .int) rfl (by decide) rfl rfl rfl ⟨by rw [ix_none hno], rfl⟩
                    · replace hc3 : x3 = c := hc3
                      have hno : ∀ i, f ≤ i → i < 3 → ([x0, x1, x2, x3].take n)[i]? ≠ some c := fun i h1 h2 => by
                        obtain rfl | rfl | rfl : i = 0 ∨ i = 1 ∨ i = 2 := by omega
                        · exact N0 h1
                        · exact N1 h1
                        · exact N2 h1
                      refine Wp.run ok_fnd 1 74 #[.val (.ref a), .val (.int (Int32.ofNat n)), .val (.int c), .val (.int (Int32.ofNat f))] [(.int (3 : Int32))] rfl ?_
                      exact Wp.retI ok_fnd (t := .int) rfl (by decide) rfl rfl rfl ⟨by rw [ix_hit g3 (by rw [e3, hc3]) hno]; rfl, rfl⟩
              · replace hc2 : x2 = c := hc2
                have hno : ∀ i, f ≤ i → i < 2 → ([x0, x1, x2, x3].take n)[i]? ≠ some c := fun i h1 h2 => by
                  obtain rfl | rfl : i = 0 ∨ i = 1 := by omega
                  · exact N0 h1
                  · exact N1 h1
                refine Wp.run ok_fnd 1 55 #[.val (.ref a), .val (.int (Int32.ofNat n)), .val (.int c), .val (.int (Int32.ofNat f))] [(.int (2 : Int32))] rfl ?_
                exact Wp.retI ok_fnd (t := .int) rfl (by decide) rfl rfl rfl ⟨by rw [ix_hit g2 (by rw [e2, hc2]) hno]; rfl, rfl⟩
        · replace ha1 : ¬ (1 : Int32) < (Int32.ofNat f) := ha1
          have g1 : f ≤ 1 := Nat.le_of_not_lt fun z => ha1 ((n_lt (i := 1) (by decide) (by omega)).mpr z)
          refine Wp.run ok_fnd 2 25 #[.val (.ref a), .val (.int (Int32.ofNat n)), .val (.int c), .val (.int (Int32.ofNat f))] [(.int (Int32.ofNat n)), (.int (1 : Int32))] rfl ?_
          refine Wp.icmp ok_fnd 37 rfl rfl (by decide) (by decide) (fun hb1 => ?_) (fun hb1 => ?_)
          · replace hb1 : ¬ (1 : Int32) < (Int32.ofNat n) := hb1
            have N1 : f ≤ 1 → ([x0, x1, x2, x3].take n)[1]? ≠ some c := fun _ => by
              have z : n ≤ 1 := Nat.le_of_not_lt fun z => hb1 ((n_lt (i := 1) (by decide) (by omega)).mpr z)
              rw [List.getElem?_eq_none (by rw [List.length_take]; omega)]; exact fun y => nomatch y
            refine Wp.run ok_fnd 2 39 #[.val (.ref a), .val (.int (Int32.ofNat n)), .val (.int c), .val (.int (Int32.ofNat f))] [(.int (2 : Int32)), (.int (Int32.ofNat f))] rfl ?_
            refine Wp.icmp ok_fnd 56 rfl rfl (by decide) (by decide) (fun ha2 => ?_) (fun ha2 => ?_)
            · replace ha2 : (2 : Int32) < (Int32.ofNat f) := ha2
              have N2 : f ≤ 2 → ([x0, x1, x2, x3].take n)[2]? ≠ some c := fun z => absurd ((n_lt (i := 2) (by decide) (by omega)).mp ha2) (by omega)
              refine Wp.run ok_fnd 2 58 #[.val (.ref a), .val (.int (Int32.ofNat n)), .val (.int c), .val (.int (Int32.ofNat f))] [(.int (3 : Int32)), (.int (Int32.ofNat f))] rfl ?_
              refine Wp.icmp ok_fnd 75 rfl rfl (by decide) (by decide) (fun ha3 => ?_) (fun ha3 => ?_)
              · replace ha3 : (3 : Int32) < (Int32.ofNat f) := ha3
                have N3 : f ≤ 3 → ([x0, x1, x2, x3].take n)[3]? ≠ some c := fun z => absurd ((n_lt (i := 3) (by decide) (by omega)).mp ha3) (by omega)
                refine Wp.run ok_fnd 1 76 #[.val (.ref a), .val (.int (Int32.ofNat n)), .val (.int c), .val (.int (Int32.ofNat f))] [(.int (-1 : Int32))] rfl ?_
                have hno : ∀ i, f ≤ i → ([x0, x1, x2, x3].take n)[i]? ≠ some c := fun i hi => by
                  by_cases hj4 : i < 4
                  · obtain rfl | rfl | rfl | rfl : i = 0 ∨ i = 1 ∨ i = 2 ∨ i = 3 := by omega
                    · exact N0 hi
                    · exact N1 hi
                    · exact N2 hi
                    · exact N3 hi
                  · rw [List.getElem?_eq_none (Nat.le_trans (by rw [List.length_take]; exact Nat.min_le_right _ _) (Nat.le_of_not_lt hj4))]; exact fun z => nomatch z
                exact Wp.retI ok_fnd (t := .int) rfl (by decide) rfl rfl rfl ⟨by rw [ix_none hno], rfl⟩
              · replace ha3 : ¬ (3 : Int32) < (Int32.ofNat f) := ha3
                have g3 : f ≤ 3 := Nat.le_of_not_lt fun z => ha3 ((n_lt (i := 3) (by decide) (by omega)).mpr z)
                refine Wp.run ok_fnd 2 63 #[.val (.ref a), .val (.int (Int32.ofNat n)), .val (.int c), .val (.int (Int32.ofNat f))] [(.int (Int32.ofNat n)), (.int (3 : Int32))] rfl ?_
                refine Wp.icmp ok_fnd 75 rfl rfl (by decide) (by decide) (fun hb3 => ?_) (fun hb3 => ?_)
                · replace hb3 : ¬ (3 : Int32) < (Int32.ofNat n) := hb3
                  have N3 : f ≤ 3 → ([x0, x1, x2, x3].take n)[3]? ≠ some c := fun _ => by
                    have z : n ≤ 3 := Nat.le_of_not_lt fun z => hb3 ((n_lt (i := 3) (by decide) (by omega)).mpr z)
                    rw [List.getElem?_eq_none (by rw [List.length_take]; omega)]; exact fun y => nomatch y
                  refine Wp.run ok_fnd 1 76 #[.val (.ref a), .val (.int (Int32.ofNat n)), .val (.int c), .val (.int (Int32.ofNat f))] [(.int (-1 : Int32))] rfl ?_
                  have hno : ∀ i, f ≤ i → ([x0, x1, x2, x3].take n)[i]? ≠ some c := fun i hi => by
                    by_cases hj4 : i < 4
                    · obtain rfl | rfl | rfl | rfl : i = 0 ∨ i = 1 ∨ i = 2 ∨ i = 3 := by omega
                      · exact N0 hi
                      · exact N1 hi
                      · exact N2 hi
                      · exact N3 hi
                    · rw [List.getElem?_eq_none (Nat.le_trans (by rw [List.length_take]; exact Nat.min_le_right _ _) (Nat.le_of_not_lt hj4))]; exact fun z => nomatch z
                  exact Wp.retI ok_fnd (t := .int) rfl (by decide) rfl rfl rfl ⟨by rw [ix_none hno], rfl⟩
                · replace hb3 : (3 : Int32) < (Int32.ofNat n) := hb3
                  have e3 : ([x0, x1, x2, x3].take n)[3]? = some x3 := by
                    have z : 3 < n := (n_lt (i := 3) (by decide) (by omega)).mp hb3
                    rw [List.getElem?_take_of_lt z]; rfl
                  refine Wp.run ok_fnd 2 68 #[.val (.ref a), .val (.int (Int32.ofNat n)), .val (.int c), .val (.int (Int32.ofNat f))] [(.int (3 : Int32)), (.ref a)] rfl ?_
                  refine Wp.aget ok_fnd A (i := 3) (v := (.int x3)) rfl rfl rfl rfl rfl ?_
                  refine Wp.run ok_fnd 1 70 #[.val (.ref a), .val (.int (Int32.ofNat n)), .val (.int c), .val (.int (Int32.ofNat f))] [(.int c), (.int x3)] rfl ?_
                  refine Wp.icmp ok_fnd 75 rfl rfl (by decide) (by decide) (fun hc3 => ?_) (fun hc3 => ?_)
                  · replace hc3 : ¬ x3 = c := hc3
                    have N3 : f ≤ 3 → ([x0, x1, x2, x3].take n)[3]? ≠ some c := fun _ => by rw [e3]; exact fun y => hc3 (Option.some.inj y)
                    refine Wp.run ok_fnd 1 76 #[.val (.ref a), .val (.int (Int32.ofNat n)), .val (.int c), .val (.int (Int32.ofNat f))] [(.int (-1 : Int32))] rfl ?_
                    have hno : ∀ i, f ≤ i → ([x0, x1, x2, x3].take n)[i]? ≠ some c := fun i hi => by
                      by_cases hj4 : i < 4
                      · obtain rfl | rfl | rfl | rfl : i = 0 ∨ i = 1 ∨ i = 2 ∨ i = 3 := by omega
                        · exact N0 hi
                        · exact N1 hi
                        · exact N2 hi
                        · exact N3 hi
                      · rw [List.getElem?_eq_none (Nat.le_trans (by rw [List.length_take]; exact Nat.min_le_right _ _) (Nat.le_of_not_lt hj4))]; exact fun z => nomatch z
                    exact Wp.retI ok_fnd (t := .int) rfl (by decide) rfl rfl rfl ⟨by rw [ix_none hno], rfl⟩
                  · replace hc3 : x3 = c := hc3
                    have hno : ∀ i, f ≤ i → i < 3 → ([x0, x1, x2, x3].take n)[i]? ≠ some c := fun i h1 h2 => by
                      obtain rfl | rfl | rfl : i = 0 ∨ i = 1 ∨ i = 2 := by omega
                      · exact N0 h1
                      · exact N1 h1
                      · exact N2 h1
                    refine Wp.run ok_fnd 1 74 #[.val (.ref a), .val (.int (Int32.ofNat n)), .val (.int c), .val (.int (Int32.ofNat f))] [(.int (3 : Int32))] rfl ?_
                    exact Wp.retI ok_fnd (t := .int) rfl (by decide) rfl rfl rfl ⟨by rw [ix_hit g3 (by rw [e3, hc3]) hno]; rfl, rfl⟩
            · replace ha2 : ¬ (2 : Int32) < (Int32.ofNat f) := ha2
              have g2 : f ≤ 2 := Nat.le_of_not_lt fun z => ha2 ((n_lt (i := 2) (by decide) (by omega)).mpr z)
              refine Wp.run ok_fnd 2 44 #[.val (.ref a), .val (.int (Int32.ofNat n)), .val (.int c), .val (.int (Int32.ofNat f))] [(.int (Int32.ofNat n)), (.int (2 : Int32))] rfl ?_
              refine Wp.icmp ok_fnd 56 rfl rfl (by decide) (by decide) (fun hb2 => ?_) (fun hb2 => ?_)
              · replace hb2 : ¬ (2 : Int32) < (Int32.ofNat n) := hb2
                have N2 : f ≤ 2 → ([x0, x1, x2, x3].take n)[2]? ≠ some c := fun _ => by
                  have z : n ≤ 2 := Nat.le_of_not_lt fun z => hb2 ((n_lt (i := 2) (by decide) (by omega)).mpr z)
                  rw [List.getElem?_eq_none (by rw [List.length_take]; omega)]; exact fun y => nomatch y
                refine Wp.run ok_fnd 2 58 #[.val (.ref a), .val (.int (Int32.ofNat n)), .val (.int c), .val (.int (Int32.ofNat f))] [(.int (3 : Int32)), (.int (Int32.ofNat f))] rfl ?_
                refine Wp.icmp ok_fnd 75 rfl rfl (by decide) (by decide) (fun ha3 => ?_) (fun ha3 => ?_)
                · replace ha3 : (3 : Int32) < (Int32.ofNat f) := ha3
                  have N3 : f ≤ 3 → ([x0, x1, x2, x3].take n)[3]? ≠ some c := fun z => absurd ((n_lt (i := 3) (by decide) (by omega)).mp ha3) (by omega)
                  refine Wp.run ok_fnd 1 76 #[.val (.ref a), .val (.int (Int32.ofNat n)), .val (.int c), .val (.int (Int32.ofNat f))] [(.int (-1 : Int32))] rfl ?_
                  have hno : ∀ i, f ≤ i → ([x0, x1, x2, x3].take n)[i]? ≠ some c := fun i hi => by
                    by_cases hj4 : i < 4
                    · obtain rfl | rfl | rfl | rfl : i = 0 ∨ i = 1 ∨ i = 2 ∨ i = 3 := by omega
                      · exact N0 hi
                      · exact N1 hi
                      · exact N2 hi
                      · exact N3 hi
                    · rw [List.getElem?_eq_none (Nat.le_trans (by rw [List.length_take]; exact Nat.min_le_right _ _) (Nat.le_of_not_lt hj4))]; exact fun z => nomatch z
                  exact Wp.retI ok_fnd (t := .int) rfl (by decide) rfl rfl rfl ⟨by rw [ix_none hno], rfl⟩
                · replace ha3 : ¬ (3 : Int32) < (Int32.ofNat f) := ha3
                  have g3 : f ≤ 3 := Nat.le_of_not_lt fun z => ha3 ((n_lt (i := 3) (by decide) (by omega)).mpr z)
                  refine Wp.run ok_fnd 2 63 #[.val (.ref a), .val (.int (Int32.ofNat n)), .val (.int c), .val (.int (Int32.ofNat f))] [(.int (Int32.ofNat n)), (.int (3 : Int32))] rfl ?_
                  refine Wp.icmp ok_fnd 75 rfl rfl (by decide) (by decide) (fun hb3 => ?_) (fun hb3 => ?_)
                  · replace hb3 : ¬ (3 : Int32) < (Int32.ofNat n) := hb3
                    have N3 : f ≤ 3 → ([x0, x1, x2, x3].take n)[3]? ≠ some c := fun _ => by
                      have z : n ≤ 3 := Nat.le_of_not_lt fun z => hb3 ((n_lt (i := 3) (by decide) (by omega)).mpr z)
                      rw [List.getElem?_eq_none (by rw [List.length_take]; omega)]; exact fun y => nomatch y
                    refine Wp.run ok_fnd 1 76 #[.val (.ref a), .val (.int (Int32.ofNat n)), .val (.int c), .val (.int (Int32.ofNat f))] [(.int (-1 : Int32))] rfl ?_
                    have hno : ∀ i, f ≤ i → ([x0, x1, x2, x3].take n)[i]? ≠ some c := fun i hi => by
                      by_cases hj4 : i < 4
                      · obtain rfl | rfl | rfl | rfl : i = 0 ∨ i = 1 ∨ i = 2 ∨ i = 3 := by omega
                        · exact N0 hi
                        · exact N1 hi
                        · exact N2 hi
                        · exact N3 hi
                      · rw [List.getElem?_eq_none (Nat.le_trans (by rw [List.length_take]; exact Nat.min_le_right _ _) (Nat.le_of_not_lt hj4))]; exact fun z => nomatch z
                    exact Wp.retI ok_fnd (t := .int) rfl (by decide) rfl rfl rfl ⟨by rw [ix_none hno], rfl⟩
                  · replace hb3 : (3 : Int32) < (Int32.ofNat n) := hb3
                    have e3 : ([x0, x1, x2, x3].take n)[3]? = some x3 := by
                      have z : 3 < n := (n_lt (i := 3) (by decide) (by omega)).mp hb3
                      rw [List.getElem?_take_of_lt z]; rfl
                    refine Wp.run ok_fnd 2 68 #[.val (.ref a), .val (.int (Int32.ofNat n)), .val (.int c), .val (.int (Int32.ofNat f))] [(.int (3 : Int32)), (.ref a)] rfl ?_
                    refine Wp.aget ok_fnd A (i := 3) (v := (.int x3)) rfl rfl rfl rfl rfl ?_
                    refine Wp.run ok_fnd 1 70 #[.val (.ref a), .val (.int (Int32.ofNat n)), .val (.int c), .val (.int (Int32.ofNat f))] [(.int c), (.int x3)] rfl ?_
                    refine Wp.icmp ok_fnd 75 rfl rfl (by decide) (by decide) (fun hc3 => ?_) (fun hc3 => ?_)
                    · replace hc3 : ¬ x3 = c := hc3
                      have N3 : f ≤ 3 → ([x0, x1, x2, x3].take n)[3]? ≠ some c := fun _ => by rw [e3]; exact fun y => hc3 (Option.some.inj y)
                      refine Wp.run ok_fnd 1 76 #[.val (.ref a), .val (.int (Int32.ofNat n)), .val (.int c), .val (.int (Int32.ofNat f))] [(.int (-1 : Int32))] rfl ?_
                      have hno : ∀ i, f ≤ i → ([x0, x1, x2, x3].take n)[i]? ≠ some c := fun i hi => by
                        by_cases hj4 : i < 4
                        · obtain rfl | rfl | rfl | rfl : i = 0 ∨ i = 1 ∨ i = 2 ∨ i = 3 := by omega
                          · exact N0 hi
                          · exact N1 hi
                          · exact N2 hi
                          · exact N3 hi
                        · rw [List.getElem?_eq_none (Nat.le_trans (by rw [List.length_take]; exact Nat.min_le_right _ _) (Nat.le_of_not_lt hj4))]; exact fun z => nomatch z
                      exact Wp.retI ok_fnd (t := .int) rfl (by decide) rfl rfl rfl ⟨by rw [ix_none hno], rfl⟩
                    · replace hc3 : x3 = c := hc3
                      have hno : ∀ i, f ≤ i → i < 3 → ([x0, x1, x2, x3].take n)[i]? ≠ some c := fun i h1 h2 => by
                        obtain rfl | rfl | rfl : i = 0 ∨ i = 1 ∨ i = 2 := by omega
                        · exact N0 h1
                        · exact N1 h1
                        · exact N2 h1
                      refine Wp.run ok_fnd 1 74 #[.val (.ref a), .val (.int (Int32.ofNat n)), .val (.int c), .val (.int (Int32.ofNat f))] [(.int (3 : Int32))] rfl ?_
                      exact Wp.retI ok_fnd (t := .int) rfl (by decide) rfl rfl rfl ⟨by rw [ix_hit g3 (by rw [e3, hc3]) hno]; rfl, rfl⟩
              · replace hb2 : (2 : Int32) < (Int32.ofNat n) := hb2
                have e2 : ([x0, x1, x2, x3].take n)[2]? = some x2 := by
                  have z : 2 < n := (n_lt (i := 2) (by decide) (by omega)).mp hb2
                  rw [List.getElem?_take_of_lt z]; rfl
                refine Wp.run ok_fnd 2 49 #[.val (.ref a), .val (.int (Int32.ofNat n)), .val (.int c), .val (.int (Int32.ofNat f))] [(.int (2 : Int32)), (.ref a)] rfl ?_
                refine Wp.aget ok_fnd A (i := 2) (v := (.int x2)) rfl rfl rfl rfl rfl ?_
                refine Wp.run ok_fnd 1 51 #[.val (.ref a), .val (.int (Int32.ofNat n)), .val (.int c), .val (.int (Int32.ofNat f))] [(.int c), (.int x2)] rfl ?_
                refine Wp.icmp ok_fnd 56 rfl rfl (by decide) (by decide) (fun hc2 => ?_) (fun hc2 => ?_)
                · replace hc2 : ¬ x2 = c := hc2
                  have N2 : f ≤ 2 → ([x0, x1, x2, x3].take n)[2]? ≠ some c := fun _ => by rw [e2]; exact fun y => hc2 (Option.some.inj y)
                  refine Wp.run ok_fnd 2 58 #[.val (.ref a), .val (.int (Int32.ofNat n)), .val (.int c), .val (.int (Int32.ofNat f))] [(.int (3 : Int32)), (.int (Int32.ofNat f))] rfl ?_
                  refine Wp.icmp ok_fnd 75 rfl rfl (by decide) (by decide) (fun ha3 => ?_) (fun ha3 => ?_)
                  · replace ha3 : (3 : Int32) < (Int32.ofNat f) := ha3
                    have N3 : f ≤ 3 → ([x0, x1, x2, x3].take n)[3]? ≠ some c := fun z => absurd ((n_lt (i := 3) (by decide) (by omega)).mp ha3) (by omega)
                    refine Wp.run ok_fnd 1 76 #[.val (.ref a), .val (.int (Int32.ofNat n)), .val (.int c), .val (.int (Int32.ofNat f))] [(.int (-1 : Int32))] rfl ?_
                    have hno : ∀ i, f ≤ i → ([x0, x1, x2, x3].take n)[i]? ≠ some c := fun i hi => by
                      by_cases hj4 : i < 4
                      · obtain rfl | rfl | rfl | rfl : i = 0 ∨ i = 1 ∨ i = 2 ∨ i = 3 := by omega
                        · exact N0 hi
                        · exact N1 hi
                        · exact N2 hi
                        · exact N3 hi
                      · rw [List.getElem?_eq_none (Nat.le_trans (by rw [List.length_take]; exact Nat.min_le_right _ _) (Nat.le_of_not_lt hj4))]; exact fun z => nomatch z
                    exact Wp.retI ok_fnd (t := .int) rfl (by decide) rfl rfl rfl ⟨by rw [ix_none hno], rfl⟩
                  · replace ha3 : ¬ (3 : Int32) < (Int32.ofNat f) := ha3
                    have g3 : f ≤ 3 := Nat.le_of_not_lt fun z => ha3 ((n_lt (i := 3) (by decide) (by omega)).mpr z)
                    refine Wp.run ok_fnd 2 63 #[.val (.ref a), .val (.int (Int32.ofNat n)), .val (.int c), .val (.int (Int32.ofNat f))] [(.int (Int32.ofNat n)), (.int (3 : Int32))] rfl ?_
                    refine Wp.icmp ok_fnd 75 rfl rfl (by decide) (by decide) (fun hb3 => ?_) (fun hb3 => ?_)
                    · replace hb3 : ¬ (3 : Int32) < (Int32.ofNat n) := hb3
                      have N3 : f ≤ 3 → ([x0, x1, x2, x3].take n)[3]? ≠ some c := fun _ => by
                        have z : n ≤ 3 := Nat.le_of_not_lt fun z => hb3 ((n_lt (i := 3) (by decide) (by omega)).mpr z)
                        rw [List.getElem?_eq_none (by rw [List.length_take]; omega)]; exact fun y => nomatch y
                      refine Wp.run ok_fnd 1 76 #[.val (.ref a), .val (.int (Int32.ofNat n)), .val (.int c), .val (.int (Int32.ofNat f))] [(.int (-1 : Int32))] rfl ?_
                      have hno : ∀ i, f ≤ i → ([x0, x1, x2, x3].take n)[i]? ≠ some c := fun i hi => by
                        by_cases hj4 : i < 4
                        · obtain rfl | rfl | rfl | rfl : i = 0 ∨ i = 1 ∨ i = 2 ∨ i = 3 := by omega
                          · exact N0 hi
                          · exact N1 hi
                          · exact N2 hi
                          · exact N3 hi
                        · rw [List.getElem?_eq_none (Nat.le_trans (by rw [List.length_take]; exact Nat.min_le_right _ _) (Nat.le_of_not_lt hj4))]; exact fun z => nomatch z
                      exact Wp.retI ok_fnd (t := .int) rfl (by decide) rfl rfl rfl ⟨by rw [ix_none hno], rfl⟩
                    · replace hb3 : (3 : Int32) < (Int32.ofNat n) := hb3
                      have e3 : ([x0, x1, x2, x3].take n)[3]? = some x3 := by
                        have z : 3 < n := (n_lt (i := 3) (by decide) (by omega)).mp hb3
                        rw [List.getElem?_take_of_lt z]; rfl
                      refine Wp.run ok_fnd 2 68 #[.val (.ref a), .val (.int (Int32.ofNat n)), .val (.int c), .val (.int (Int32.ofNat f))] [(.int (3 : Int32)), (.ref a)] rfl ?_
                      refine Wp.aget ok_fnd A (i := 3) (v := (.int x3)) rfl rfl rfl rfl rfl ?_
                      refine Wp.run ok_fnd 1 70 #[.val (.ref a), .val (.int (Int32.ofNat n)), .val (.int c), .val (.int (Int32.ofNat f))] [(.int c), (.int x3)] rfl ?_
                      refine Wp.icmp ok_fnd 75 rfl rfl (by decide) (by decide) (fun hc3 => ?_) (fun hc3 => ?_)
                      · replace hc3 : ¬ x3 = c := hc3
                        have N3 : f ≤ 3 → ([x0, x1, x2, x3].take n)[3]? ≠ some c := fun _ => by rw [e3]; exact fun y => hc3 (Option.some.inj y)
                        refine Wp.run ok_fnd 1 76 #[.val (.ref a), .val (.int (Int32.ofNat n)), .val (.int c), .val (.int (Int32.ofNat f))] [(.int (-1 : Int32))] rfl ?_
                        have hno : ∀ i, f ≤ i → ([x0, x1, x2, x3].take n)[i]? ≠ some c := fun i hi => by
                          by_cases hj4 : i < 4
                          · obtain rfl | rfl | rfl | rfl : i = 0 ∨ i = 1 ∨ i = 2 ∨ i = 3 := by omega
                            · exact N0 hi
                            · exact N1 hi
                            · exact N2 hi
                            · exact N3 hi
                          · rw [List.getElem?_eq_none (Nat.le_trans (by rw [List.length_take]; exact Nat.min_le_right _ _) (Nat.le_of_not_lt hj4))]; exact fun z => nomatch z
                        exact Wp.retI ok_fnd (t := .int) rfl (by decide) rfl rfl rfl ⟨by rw [ix_none hno], rfl⟩
                      · replace hc3 : x3 = c := hc3
                        have hno : ∀ i, f ≤ i → i < 3 → ([x0, x1, x2, x3].take n)[i]? ≠ some c := fun i h1 h2 => by
                          obtain rfl | rfl | rfl : i = 0 ∨ i = 1 ∨ i = 2 := by omega
                          · exact N0 h1
                          · exact N1 h1
                          · exact N2 h1
                        refine Wp.run ok_fnd 1 74 #[.val (.ref a), .val (.int (Int32.ofNat n)), .val (.int c), .val (.int (Int32.ofNat f))] [(.int (3 : Int32))] rfl ?_
                        exact Wp.retI ok_fnd (t := .int) rfl (by decide) rfl rfl rfl ⟨by rw [ix_hit g3 (by rw [e3, hc3]) hno]; rfl, rfl⟩
                · replace hc2 : x2 = c := hc2
                  have hno : ∀ i, f ≤ i → i < 2 → ([x0, x1, x2, x3].take n)[i]? ≠ some c := fun i h1 h2 => by
                    obtain rfl | rfl : i = 0 ∨ i = 1 := by omega
                    · exact N0 h1
                    · exact N1 h1
                  refine Wp.run ok_fnd 1 55 #[.val (.ref a), .val (.int (Int32.ofNat n)), .val (.int c), .val (.int (Int32.ofNat f))] [(.int (2 : Int32))] rfl ?_
                  exact Wp.retI ok_fnd (t := .int) rfl (by decide) rfl rfl rfl ⟨by rw [ix_hit g2 (by rw [e2, hc2]) hno]; rfl, rfl⟩
          · replace hb1 : (1 : Int32) < (Int32.ofNat n) := hb1
            have e1 : ([x0, x1, x2, x3].take n)[1]? = some x1 := by
              have z : 1 < n := (n_lt (i := 1) (by decide) (by omega)).mp hb1
              rw [List.getElem?_take_of_lt z]; rfl
            refine Wp.run ok_fnd 2 30 #[.val (.ref a), .val (.int (Int32.ofNat n)), .val (.int c), .val (.int (Int32.ofNat f))] [(.int (1 : Int32)), (.ref a)] rfl ?_
            refine Wp.aget ok_fnd A (i := 1) (v := (.int x1)) rfl rfl rfl rfl rfl ?_
            refine Wp.run ok_fnd 1 32 #[.val (.ref a), .val (.int (Int32.ofNat n)), .val (.int c), .val (.int (Int32.ofNat f))] [(.int c), (.int x1)] rfl ?_
            refine Wp.icmp ok_fnd 37 rfl rfl (by decide) (by decide) (fun hc1 => ?_) (fun hc1 => ?_)
            · replace hc1 : ¬ x1 = c := hc1
              have N1 : f ≤ 1 → ([x0, x1, x2, x3].take n)[1]? ≠ some c := fun _ => by rw [e1]; exact fun y => hc1 (Option.some.inj y)
              refine Wp.run ok_fnd 2 39 #[.val (.ref a), .val (.int (Int32.ofNat n)), .val (.int c), .val (.int (Int32.ofNat f))] [(.int (2 : Int32)), (.int (Int32.ofNat f))] rfl ?_
              refine Wp.icmp ok_fnd 56 rfl rfl (by decide) (by decide) (fun ha2 => ?_) (fun ha2 => ?_)
              · replace ha2 : (2 : Int32) < (Int32.ofNat f) := ha2
                have N2 : f ≤ 2 → ([x0, x1, x2, x3].take n)[2]? ≠ some c := fun z => absurd ((n_lt (i := 2) (by decide) (by omega)).mp ha2) (by omega)
                refine Wp.run ok_fnd 2 58 #[.val (.ref a), .val (.int (Int32.ofNat n)), .val (.int c), .val (.int (Int32.ofNat f))] [(.int (3 : Int32)), (.int (Int32.ofNat f))] rfl ?_
                refine Wp.icmp ok_fnd 75 rfl rfl (by decide) (by decide) (fun ha3 => ?_) (fun ha3 => ?_)
                · replace ha3 : (3 : Int32) < (Int32.ofNat f) := ha3
                  have N3 : f ≤ 3 → ([x0, x1, x2, x3].take n)[3]? ≠ some c := fun z => absurd ((n_lt (i := 3) (by decide) (by omega)).mp ha3) (by omega)
                  refine Wp.run ok_fnd 1 76 #[.val (.ref a), .val (.int (Int32.ofNat n)), .val (.int c), .val (.int (Int32.ofNat f))] [(.int (-1 : Int32))] rfl ?_
                  have hno : ∀ i, f ≤ i → ([x0, x1, x2, x3].take n)[i]? ≠ some c := fun i hi => by
                    by_cases hj4 : i < 4
                    · obtain rfl | rfl | rfl | rfl : i = 0 ∨ i = 1 ∨ i = 2 ∨ i = 3 := by omega
                      · exact N0 hi
                      · exact N1 hi
                      · exact N2 hi
                      · exact N3 hi
                    · rw [List.getElem?_eq_none (Nat.le_trans (by rw [List.length_take]; exact Nat.min_le_right _ _) (Nat.le_of_not_lt hj4))]; exact fun z => nomatch z
                  exact Wp.retI ok_fnd (t := .int) rfl (by decide) rfl rfl rfl ⟨by rw [ix_none hno], rfl⟩
                · replace ha3 : ¬ (3 : Int32) < (Int32.ofNat f) := ha3
                  have g3 : f ≤ 3 := Nat.le_of_not_lt fun z => ha3 ((n_lt (i := 3) (by decide) (by omega)).mpr z)
                  refine Wp.run ok_fnd 2 63 #[.val (.ref a), .val (.int (Int32.ofNat n)), .val (.int c), .val (.int (Int32.ofNat f))] [(.int (Int32.ofNat n)), (.int (3 : Int32))] rfl ?_
                  refine Wp.icmp ok_fnd 75 rfl rfl (by decide) (by decide) (fun hb3 => ?_) (fun hb3 => ?_)
                  · replace hb3 : ¬ (3 : Int32) < (Int32.ofNat n) := hb3
                    have N3 : f ≤ 3 → ([x0, x1, x2, x3].take n)[3]? ≠ some c := fun _ => by
                      have z : n ≤ 3 := Nat.le_of_not_lt fun z => hb3 ((n_lt (i := 3) (by decide) (by omega)).mpr z)
                      rw [List.getElem?_eq_none (by rw [List.length_take]; omega)]; exact fun y => nomatch y
                    refine Wp.run ok_fnd 1 76 #[.val (.ref a), .val (.int (Int32.ofNat n)), .val (.int c), .val (.int (Int32.ofNat f))] [(.int (-1 : Int32))] rfl ?_
                    have hno : ∀ i, f ≤ i → ([x0, x1, x2, x3].take n)[i]? ≠ some c := fun i hi => by
                      by_cases hj4 : i < 4
                      · obtain rfl | rfl | rfl | rfl : i = 0 ∨ i = 1 ∨ i = 2 ∨ i = 3 := by omega
                        · exact N0 hi
                        · exact N1 hi
                        · exact N2 hi
                        · exact N3 hi
                      · rw [List.getElem?_eq_none (Nat.le_trans (by rw [List.length_take]; exact Nat.min_le_right _ _) (Nat.le_of_not_lt hj4))]; exact fun z => nomatch z
                    exact Wp.retI ok_fnd (t := .int) rfl (by decide) rfl rfl rfl ⟨by rw [ix_none hno], rfl⟩
                  · replace hb3 : (3 : Int32) < (Int32.ofNat n) := hb3
                    have e3 : ([x0, x1, x2, x3].take n)[3]? = some x3 := by
                      have z : 3 < n := (n_lt (i := 3) (by decide) (by omega)).mp hb3
                      rw [List.getElem?_take_of_lt z]; rfl
                    refine Wp.run ok_fnd 2 68 #[.val (.ref a), .val (.int (Int32.ofNat n)), .val (.int c), .val (.int (Int32.ofNat f))] [(.int (3 : Int32)), (.ref a)] rfl ?_
                    refine Wp.aget ok_fnd A (i := 3) (v := (.int x3)) rfl rfl rfl rfl rfl ?_
                    refine Wp.run ok_fnd 1 70 #[.val (.ref a), .val (.int (Int32.ofNat n)), .val (.int c), .val (.int (Int32.ofNat f))] [(.int c), (.int x3)] rfl ?_
                    refine Wp.icmp ok_fnd 75 rfl rfl (by decide) (by decide) (fun hc3 => ?_) (fun hc3 => ?_)
                    · replace hc3 : ¬ x3 = c := hc3
                      have N3 : f ≤ 3 → ([x0, x1, x2, x3].take n)[3]? ≠ some c := fun _ => by rw [e3]; exact fun y => hc3 (Option.some.inj y)
                      refine Wp.run ok_fnd 1 76 #[.val (.ref a), .val (.int (Int32.ofNat n)), .val (.int c), .val (.int (Int32.ofNat f))] [(.int (-1 : Int32))] rfl ?_
                      have hno : ∀ i, f ≤ i → ([x0, x1, x2, x3].take n)[i]? ≠ some c := fun i hi => by
                        by_cases hj4 : i < 4
                        · obtain rfl | rfl | rfl | rfl : i = 0 ∨ i = 1 ∨ i = 2 ∨ i = 3 := by omega
                          · exact N0 hi
                          · exact N1 hi
                          · exact N2 hi
                          · exact N3 hi
                        · rw [List.getElem?_eq_none (Nat.le_trans (by rw [List.length_take]; exact Nat.min_le_right _ _) (Nat.le_of_not_lt hj4))]; exact fun z => nomatch z
                      exact Wp.retI ok_fnd (t := .int) rfl (by decide) rfl rfl rfl ⟨by rw [ix_none hno], rfl⟩
                    · replace hc3 : x3 = c := hc3
                      have hno : ∀ i, f ≤ i → i < 3 → ([x0, x1, x2, x3].take n)[i]? ≠ some c := fun i h1 h2 => by
                        obtain rfl | rfl | rfl : i = 0 ∨ i = 1 ∨ i = 2 := by omega
                        · exact N0 h1
                        · exact N1 h1
                        · exact N2 h1
                      refine Wp.run ok_fnd 1 74 #[.val (.ref a), .val (.int (Int32.ofNat n)), .val (.int c), .val (.int (Int32.ofNat f))] [(.int (3 : Int32))] rfl ?_
                      exact Wp.retI ok_fnd (t := .int) rfl (by decide) rfl rfl rfl ⟨by rw [ix_hit g3 (by rw [e3, hc3]) hno]; rfl, rfl⟩
              · replace ha2 : ¬ (2 : Int32) < (Int32.ofNat f) := ha2
                have g2 : f ≤ 2 := Nat.le_of_not_lt fun z => ha2 ((n_lt (i := 2) (by decide) (by omega)).mpr z)
                refine Wp.run ok_fnd 2 44 #[.val (.ref a), .val (.int (Int32.ofNat n)), .val (.int c), .val (.int (Int32.ofNat f))] [(.int (Int32.ofNat n)), (.int (2 : Int32))] rfl ?_
                refine Wp.icmp ok_fnd 56 rfl rfl (by decide) (by decide) (fun hb2 => ?_) (fun hb2 => ?_)
                · replace hb2 : ¬ (2 : Int32) < (Int32.ofNat n) := hb2
                  have N2 : f ≤ 2 → ([x0, x1, x2, x3].take n)[2]? ≠ some c := fun _ => by
                    have z : n ≤ 2 := Nat.le_of_not_lt fun z => hb2 ((n_lt (i := 2) (by decide) (by omega)).mpr z)
                    rw [List.getElem?_eq_none (by rw [List.length_take]; omega)]; exact fun y => nomatch y
                  refine Wp.run ok_fnd 2 58 #[.val (.ref a), .val (.int (Int32.ofNat n)), .val (.int c), .val (.int (Int32.ofNat f))] [(.int (3 : Int32)), (.int (Int32.ofNat f))] rfl ?_
                  refine Wp.icmp ok_fnd 75 rfl rfl (by decide) (by decide) (fun ha3 => ?_) (fun ha3 => ?_)
                  · replace ha3 : (3 : Int32) < (Int32.ofNat f) := ha3
                    have N3 : f ≤ 3 → ([x0, x1, x2, x3].take n)[3]? ≠ some c := fun z => absurd ((n_lt (i := 3) (by decide) (by omega)).mp ha3) (by omega)
                    refine Wp.run ok_fnd 1 76 #[.val (.ref a), .val (.int (Int32.ofNat n)), .val (.int c), .val (.int (Int32.ofNat f))] [(.int (-1 : Int32))] rfl ?_
                    have hno : ∀ i, f ≤ i → ([x0, x1, x2, x3].take n)[i]? ≠ some c := fun i hi => by
                      by_cases hj4 : i < 4
                      · obtain rfl | rfl | rfl | rfl : i = 0 ∨ i = 1 ∨ i = 2 ∨ i = 3 := by omega
                        · exact N0 hi
                        · exact N1 hi
                        · exact N2 hi
                        · exact N3 hi
                      · rw [List.getElem?_eq_none (Nat.le_trans (by rw [List.length_take]; exact Nat.min_le_right _ _) (Nat.le_of_not_lt hj4))]; exact fun z => nomatch z
                    exact Wp.retI ok_fnd (t := .int) rfl (by decide) rfl rfl rfl ⟨by rw [ix_none hno], rfl⟩
                  · replace ha3 : ¬ (3 : Int32) < (Int32.ofNat f) := ha3
                    have g3 : f ≤ 3 := Nat.le_of_not_lt fun z => ha3 ((n_lt (i := 3) (by decide) (by omega)).mpr z)
                    refine Wp.run ok_fnd 2 63 #[.val (.ref a), .val (.int (Int32.ofNat n)), .val (.int c), .val (.int (Int32.ofNat f))] [(.int (Int32.ofNat n)), (.int (3 : Int32))] rfl ?_
                    refine Wp.icmp ok_fnd 75 rfl rfl (by decide) (by decide) (fun hb3 => ?_) (fun hb3 => ?_)
                    · replace hb3 : ¬ (3 : Int32) < (Int32.ofNat n) := hb3
                      have N3 : f ≤ 3 → ([x0, x1, x2, x3].take n)[3]? ≠ some c := fun _ => by
                        have z : n ≤ 3 := Nat.le_of_not_lt fun z => hb3 ((n_lt (i := 3) (by decide) (by omega)).mpr z)
                        rw [List.getElem?_eq_none (by rw [List.length_take]; omega)]; exact fun y => nomatch y
                      refine Wp.run ok_fnd 1 76 #[.val (.ref a), .val (.int (Int32.ofNat n)), .val (.int c), .val (.int (Int32.ofNat f))] [(.int (-1 : Int32))] rfl ?_
                      have hno : ∀ i, f ≤ i → ([x0, x1, x2, x3].take n)[i]? ≠ some c := fun i hi => by
                        by_cases hj4 : i < 4
                        · obtain rfl | rfl | rfl | rfl : i = 0 ∨ i = 1 ∨ i = 2 ∨ i = 3 := by omega
                          · exact N0 hi
                          · exact N1 hi
                          · exact N2 hi
                          · exact N3 hi
                        · rw [List.getElem?_eq_none (Nat.le_trans (by rw [List.length_take]; exact Nat.min_le_right _ _) (Nat.le_of_not_lt hj4))]; exact fun z => nomatch z
                      exact Wp.retI ok_fnd (t := .int) rfl (by decide) rfl rfl rfl ⟨by rw [ix_none hno], rfl⟩
                    · replace hb3 : (3 : Int32) < (Int32.ofNat n) := hb3
                      have e3 : ([x0, x1, x2, x3].take n)[3]? = some x3 := by
                        have z : 3 < n := (n_lt (i := 3) (by decide) (by omega)).mp hb3
                        rw [List.getElem?_take_of_lt z]; rfl
                      refine Wp.run ok_fnd 2 68 #[.val (.ref a), .val (.int (Int32.ofNat n)), .val (.int c), .val (.int (Int32.ofNat f))] [(.int (3 : Int32)), (.ref a)] rfl ?_
                      refine Wp.aget ok_fnd A (i := 3) (v := (.int x3)) rfl rfl rfl rfl rfl ?_
                      refine Wp.run ok_fnd 1 70 #[.val (.ref a), .val (.int (Int32.ofNat n)), .val (.int c), .val (.int (Int32.ofNat f))] [(.int c), (.int x3)] rfl ?_
                      refine Wp.icmp ok_fnd 75 rfl rfl (by decide) (by decide) (fun hc3 => ?_) (fun hc3 => ?_)
                      · replace hc3 : ¬ x3 = c := hc3
                        have N3 : f ≤ 3 → ([x0, x1, x2, x3].take n)[3]? ≠ some c := fun _ => by rw [e3]; exact fun y => hc3 (Option.some.inj y)
                        refine Wp.run ok_fnd 1 76 #[.val (.ref a), .val (.int (Int32.ofNat n)), .val (.int c), .val (.int (Int32.ofNat f))] [(.int (-1 : Int32))] rfl ?_
                        have hno : ∀ i, f ≤ i → ([x0, x1, x2, x3].take n)[i]? ≠ some c := fun i hi => by
                          by_cases hj4 : i < 4
                          · obtain rfl | rfl | rfl | rfl : i = 0 ∨ i = 1 ∨ i = 2 ∨ i = 3 := by omega
                            · exact N0 hi
                            · exact N1 hi
                            · exact N2 hi
                            · exact N3 hi
                          · rw [List.getElem?_eq_none (Nat.le_trans (by rw [List.length_take]; exact Nat.min_le_right _ _) (Nat.le_of_not_lt hj4))]; exact fun z => nomatch z
                        exact Wp.retI ok_fnd (t := .int) rfl (by decide) rfl rfl rfl ⟨by rw [ix_none hno], rfl⟩
                      · replace hc3 : x3 = c := hc3
                        have hno : ∀ i, f ≤ i → i < 3 → ([x0, x1, x2, x3].take n)[i]? ≠ some c := fun i h1 h2 => by
                          obtain rfl | rfl | rfl : i = 0 ∨ i = 1 ∨ i = 2 := by omega
                          · exact N0 h1
                          · exact N1 h1
                          · exact N2 h1
                        refine Wp.run ok_fnd 1 74 #[.val (.ref a), .val (.int (Int32.ofNat n)), .val (.int c), .val (.int (Int32.ofNat f))] [(.int (3 : Int32))] rfl ?_
                        exact Wp.retI ok_fnd (t := .int) rfl (by decide) rfl rfl rfl ⟨by rw [ix_hit g3 (by rw [e3, hc3]) hno]; rfl, rfl⟩
                · replace hb2 : (2 : Int32) < (Int32.ofNat n) := hb2
                  have e2 : ([x0, x1, x2, x3].take n)[2]? = some x2 := by
                    have z : 2 < n := (n_lt (i := 2) (by decide) (by omega)).mp hb2
                    rw [List.getElem?_take_of_lt z]; rfl
                  refine Wp.run ok_fnd 2 49 #[.val (.ref a), .val (.int (Int32.ofNat n)), .val (.int c), .val (.int (Int32.ofNat f))] [(.int (2 : Int32)), (.ref a)] rfl ?_
                  refine Wp.aget ok_fnd A (i := 2) (v := (.int x2)) rfl rfl rfl rfl rfl ?_
                  refine Wp.run ok_fnd 1 51 #[.val (.ref a), .val (.int (Int32.ofNat n)), .val (.int c), .val (.int (Int32.ofNat f))] [(.int c), (.int x2)] rfl ?_
                  refine Wp.icmp ok_fnd 56 rfl rfl (by decide) (by decide) (fun hc2 => ?_) (fun hc2 => ?_)
                  · replace hc2 : ¬ x2 = c := hc2
                    have N2 : f ≤ 2 → ([x0, x1, x2, x3].take n)[2]? ≠ some c := fun _ => by rw [e2]; exact fun y => hc2 (Option.some.inj y)
                    refine Wp.run ok_fnd 2 58 #[.val (.ref a), .val (.int (Int32.ofNat n)), .val (.int c), .val (.int (Int32.ofNat f))] [(.int (3 : Int32)), (.int (Int32.ofNat f))] rfl ?_
                    refine Wp.icmp ok_fnd 75 rfl rfl (by decide) (by decide) (fun ha3 => ?_) (fun ha3 => ?_)
                    · replace ha3 : (3 : Int32) < (Int32.ofNat f) := ha3
                      have N3 : f ≤ 3 → ([x0, x1, x2, x3].take n)[3]? ≠ some c := fun z => absurd ((n_lt (i := 3) (by decide) (by omega)).mp ha3) (by omega)
                      refine Wp.run ok_fnd 1 76 #[.val (.ref a), .val (.int (Int32.ofNat n)), .val (.int c), .val (.int (Int32.ofNat f))] [(.int (-1 : Int32))] rfl ?_
                      have hno : ∀ i, f ≤ i → ([x0, x1, x2, x3].take n)[i]? ≠ some c := fun i hi => by
                        by_cases hj4 : i < 4
                        · obtain rfl | rfl | rfl | rfl : i = 0 ∨ i = 1 ∨ i = 2 ∨ i = 3 := by omega
                          · exact N0 hi
                          · exact N1 hi
                          · exact N2 hi
                          · exact N3 hi
                        · rw [List.getElem?_eq_none (Nat.le_trans (by rw [List.length_take]; exact Nat.min_le_right _ _) (Nat.le_of_not_lt hj4))]; exact fun z => nomatch z
                      exact Wp.retI ok_fnd (t := .int) rfl (by decide) rfl rfl rfl ⟨by rw [ix_none hno], rfl⟩
                    · replace ha3 : ¬ (3 : Int32) < (Int32.ofNat f) := ha3
                      have g3 : f ≤ 3 := Nat.le_of_not_lt fun z => ha3 ((n_lt (i := 3) (by decide) (by omega)).mpr z)
                      refine Wp.run ok_fnd 2 63 #[.val (.ref a), .val (.int (Int32.ofNat n)), .val (.int c), .val (.int (Int32.ofNat f))] [(.int (Int32.ofNat n)), (.int (3 : Int32))] rfl ?_
                      refine Wp.icmp ok_fnd 75 rfl rfl (by decide) (by decide) (fun hb3 => ?_) (fun hb3 => ?_)
                      · replace hb3 : ¬ (3 : Int32) < (Int32.ofNat n) := hb3
                        have N3 : f ≤ 3 → ([x0, x1, x2, x3].take n)[3]? ≠ some c := fun _ => by
                          have z : n ≤ 3 := Nat.le_of_not_lt fun z => hb3 ((n_lt (i := 3) (by decide) (by omega)).mpr z)
                          rw [List.getElem?_eq_none (by rw [List.length_take]; omega)]; exact fun y => nomatch y
                        refine Wp.run ok_fnd 1 76 #[.val (.ref a), .val (.int (Int32.ofNat n)), .val (.int c), .val (.int (Int32.ofNat f))] [(.int (-1 : Int32))] rfl ?_
                        have hno : ∀ i, f ≤ i → ([x0, x1, x2, x3].take n)[i]? ≠ some c := fun i hi => by
                          by_cases hj4 : i < 4
                          · obtain rfl | rfl | rfl | rfl : i = 0 ∨ i = 1 ∨ i = 2 ∨ i = 3 := by omega
                            · exact N0 hi
                            · exact N1 hi
                            · exact N2 hi
                            · exact N3 hi
                          · rw [List.getElem?_eq_none (Nat.le_trans (by rw [List.length_take]; exact Nat.min_le_right _ _) (Nat.le_of_not_lt hj4))]; exact fun z => nomatch z
                        exact Wp.retI ok_fnd (t := .int) rfl (by decide) rfl rfl rfl ⟨by rw [ix_none hno], rfl⟩
                      · replace hb3 : (3 : Int32) < (Int32.ofNat n) := hb3
                        have e3 : ([x0, x1, x2, x3].take n)[3]? = some x3 := by
                          have z : 3 < n := (n_lt (i := 3) (by decide) (by omega)).mp hb3
                          rw [List.getElem?_take_of_lt z]; rfl
                        refine Wp.run ok_fnd 2 68 #[.val (.ref a), .val (.int (Int32.ofNat n)), .val (.int c), .val (.int (Int32.ofNat f))] [(.int (3 : Int32)), (.ref a)] rfl ?_
                        refine Wp.aget ok_fnd A (i := 3) (v := (.int x3)) rfl rfl rfl rfl rfl ?_
                        refine Wp.run ok_fnd 1 70 #[.val (.ref a), .val (.int (Int32.ofNat n)), .val (.int c), .val (.int (Int32.ofNat f))] [(.int c), (.int x3)] rfl ?_
                        refine Wp.icmp ok_fnd 75 rfl rfl (by decide) (by decide) (fun hc3 => ?_) (fun hc3 => ?_)
                        · replace hc3 : ¬ x3 = c := hc3
                          have N3 : f ≤ 3 → ([x0, x1, x2, x3].take n)[3]? ≠ some c := fun _ => by rw [e3]; exact fun y => hc3 (Option.some.inj y)
                          refine Wp.run ok_fnd 1 76 #[.val (.ref a), .val (.int (Int32.ofNat n)), .val (.int c), .val (.int (Int32.ofNat f))] [(.int (-1 : Int32))] rfl ?_
                          have hno : ∀ i, f ≤ i → ([x0, x1, x2, x3].take n)[i]? ≠ some c := fun i hi => by
                            by_cases hj4 : i < 4
                            · obtain rfl | rfl | rfl | rfl : i = 0 ∨ i = 1 ∨ i = 2 ∨ i = 3 := by omega
                              · exact N0 hi
                              · exact N1 hi
                              · exact N2 hi
                              · exact N3 hi
                            · rw [List.getElem?_eq_none (Nat.le_trans (by rw [List.length_take]; exact Nat.min_le_right _ _) (Nat.le_of_not_lt hj4))]; exact fun z => nomatch z
                          exact Wp.retI ok_fnd (t := .int) rfl (by decide) rfl rfl rfl ⟨by rw [ix_none hno], rfl⟩
                        · replace hc3 : x3 = c := hc3
                          have hno : ∀ i, f ≤ i → i < 3 → ([x0, x1, x2, x3].take n)[i]? ≠ some c := fun i h1 h2 => by
                            obtain rfl | rfl | rfl : i = 0 ∨ i = 1 ∨ i = 2 := by omega
                            · exact N0 h1
                            · exact N1 h1
                            · exact N2 h1
                          refine Wp.run ok_fnd 1 74 #[.val (.ref a), .val (.int (Int32.ofNat n)), .val (.int c), .val (.int (Int32.ofNat f))] [(.int (3 : Int32))] rfl ?_
                          exact Wp.retI ok_fnd (t := .int) rfl (by decide) rfl rfl rfl ⟨by rw [ix_hit g3 (by rw [e3, hc3]) hno]; rfl, rfl⟩
                  · replace hc2 : x2 = c := hc2
                    have hno : ∀ i, f ≤ i → i < 2 → ([x0, x1, x2, x3].take n)[i]? ≠ some c := fun i h1 h2 => by
                      obtain rfl | rfl : i = 0 ∨ i = 1 := by omega
                      · exact N0 h1
                      · exact N1 h1
                    refine Wp.run ok_fnd 1 55 #[.val (.ref a), .val (.int (Int32.ofNat n)), .val (.int c), .val (.int (Int32.ofNat f))] [(.int (2 : Int32))] rfl ?_
                    exact Wp.retI ok_fnd (t := .int) rfl (by decide) rfl rfl rfl ⟨by rw [ix_hit g2 (by rw [e2, hc2]) hno]; rfl, rfl⟩
            · replace hc1 : x1 = c := hc1
              have hno : ∀ i, f ≤ i → i < 1 → ([x0, x1, x2, x3].take n)[i]? ≠ some c := fun i h1 h2 => by
                obtain rfl : i = 0 := by omega
                exact N0 h1
              refine Wp.run ok_fnd 1 36 #[.val (.ref a), .val (.int (Int32.ofNat n)), .val (.int c), .val (.int (Int32.ofNat f))] [(.int (1 : Int32))] rfl ?_
              exact Wp.retI ok_fnd (t := .int) rfl (by decide) rfl rfl rfl ⟨by rw [ix_hit g1 (by rw [e1, hc1]) hno]; rfl, rfl⟩
      · replace hc0 : x0 = c := hc0
        have hno : ∀ i, f ≤ i → i < 0 → ([x0, x1, x2, x3].take n)[i]? ≠ some c := fun i h1 h2 => by
          exact absurd h2 (Nat.not_lt_zero _)
        refine Wp.run ok_fnd 1 17 #[.val (.ref a), .val (.int (Int32.ofNat n)), .val (.int c), .val (.int (Int32.ofNat f))] [(.int (0 : Int32))] rfl ?_
        exact Wp.retI ok_fnd (t := .int) rfl (by decide) rfl rfl rfl ⟨by rw [ix_hit g0 (by rw [e0, hc0]) hno]; rfl, rfl⟩

theorem st1 {x : Nat} (hx : x < 65536) : (ush (Int32.ofNat x) (8 : Int32) ||| (Int32.ofNat x <<< ((8 : Int32) &&& 31))) &&& (65535 : Int32) = Int32.ofNat (((x / 256) ||| (256 * x)) &&& 65535) := by
  rw [n_ush (k := 8) (by omega) (by decide) (by decide), n_shl x 8 (by decide), n_or, show (65535 : Int32) = Int32.ofNat 65535 from rfl, n_and]
theorem st3 {y : Nat} : Int32.ofNat y ^^^ ((Int32.ofNat y &&& (255 : Int32)) >>> ((4 : Int32) &&& 31)) = Int32.ofNat (y ^^^ ((y &&& 255) / 16)) := by
  have := @Nat.and_le_right y 255
  rw [show (255 : Int32) = Int32.ofNat 255 from rfl, n_and, n_shr (k := 4) (by omega) (by decide), n_xor]
theorem st4 {y : Nat} : Int32.ofNat y ^^^ ((Int32.ofNat y <<< ((12 : Int32) &&& 31)) &&& (65535 : Int32)) = Int32.ofNat (y ^^^ ((4096 * y) &&& 65535)) := by
  rw [n_shl y 12 (by decide), show (65535 : Int32) = Int32.ofNat 65535 from rfl, n_and, n_xor]
theorem st5 {y : Nat} : Int32.ofNat y ^^^ (((Int32.ofNat y &&& (255 : Int32)) <<< ((5 : Int32) &&& 31)) &&& (65535 : Int32)) = Int32.ofNat (y ^^^ ((32 * (y &&& 255)) &&& 65535)) := by
  rw [show (255 : Int32) = Int32.ofNat 255 from rfl, n_and, n_shl _ 5 (by decide), show (65535 : Int32) = Int32.ofNat 65535 from rfl, n_and, n_xor]

abbrev mt_stp0 : Mth := (⟨"holdfast/HashSlotOfPinLaw", "step", "(II)I"⟩, method_8_code, 3, some .int)
def tb_stp0 : Tab := [(0, .iload_n 0, 1), (1, .bipush 8, 2), (3, .iushr, 1), (4, .iload_n 0, 1), (5, .bipush 8, 2), (7, .ishl, 1), (8, .ior, 1), (9, .ldc 49, 2), (11, .iand, 1), (12, .istore_n 2, 1), (13, .iload_n 2, 1), (14, .iload_n 1, 1), (15, .ixor, 1), (16, .istore_n 2, 1), (17, .iload_n 2, 1), (18, .iload_n 2, 1), (19, .sipush 255, 3), (22, .iand, 1), (23, .iconst 4, 1), (24, .ishr, 1), (25, .ixor, 1), (26, .istore_n 2, 1), (27, .iload_n 2, 1), (28, .iload_n 2, 1), (29, .bipush 12, 2), (31, .ishl, 1), (32, .ldc 49, 2), (34, .iand, 1), (35, .ixor, 1), (36, .istore_n 2, 1), (37, .iload_n 2, 1), (38, .iload_n 2, 1), (39, .sipush 255, 3), (42, .iand, 1), (43, .iconst 5, 1), (44, .ishl, 1), (45, .ldc 49, 2), (47, .iand, 1), (48, .ixor, 1), (49, .istore_n 2, 1), (50, .iload_n 2, 1), (51, .ireturn, 1)]
theorem ok_stp0 : TabOk mt_stp0.2.1 tb_stp0 := by
  intro x hx
  have q : tb_stp0.all (fun x => decide (decode method_8_code x.1 = .ok x.2)) = true := by decide +kernel
  exact of_decide_eq_true (List.all_eq_true.mp q x hx)
theorem pl_stp0 : plainFor mt_stp0.1 = true := by first | decide +kernel | exact plainFor_of_name (by first | (simp [plainName, overriddenIn]; done) | decide +kernel)
theorem pd_stp0 : parseMethodDescriptor "(II)I" = some ⟨[.int, .int], some .int⟩ := by decide +kernel

set_option maxRecDepth 65536 in
set_option maxHeartbeats 4000000 in
theorem ct_stp0 {l : Launch} {Z : State} {a0 : Array Value} (G : Gd Z a0) {x : Nat} {b : Int32} (hx : x < 65536) (hb : 0 ≤ b.toInt ∧ b.toInt ≤ 255) (h : Heap)  :
    Ct l Z EL1 mt_stp0 ({ frames := 0, cells := 0, slots := 0, locals := 0 } : Room) #[(.int (Int32.ofNat x)), (.int b)] h [] (fun v h' => v = some (.int (Int32.ofNat (stp x b.toInt.toNat))) ∧ h = h') := by
  refine Ct.of_wp pl_stp0 G.2.1 (Ls := #[.val (.int (Int32.ofNat x)), .val (.int b), .unset]) rfl ?_
  have eb := (n_of hb.1).1
  obtain ⟨c1, e1⟩ : ∃ c, c = ((x / 256) ||| (256 * x)) &&& 65535 := ⟨_, rfl⟩
  refine Wp.run ok_stp0 7 9 #[.val (.int (Int32.ofNat x)), .val (.int b), .unset] [(.int ((ush (Int32.ofNat x) (8 : Int32)) ||| ((Int32.ofNat x) <<< ((8 : Int32) &&& 31))))] rfl ?_
  refine Wp.ldcI ok_stp0 (G.1 _ (List.mem_of_getElem? (i := 134) rfl)) rfl ?_
  refine Wp.run ok_stp0 1 12 #[.val (.int (Int32.ofNat x)), .val (.int b), .unset] [(.int (((ush (Int32.ofNat x) (8 : Int32)) ||| ((Int32.ofNat x) <<< ((8 : Int32) &&& 31))) &&& (65535 : Int32)))] rfl ?_
  refine Wp.at #[.val (.int (Int32.ofNat x)), .val (.int b), .unset] [(.int (Int32.ofNat c1))] ⟨rfl, (by rw [st1 hx, ← e1] <;> rfl)⟩ ?_
  refine Wp.run ok_stp0 4 16 #[.val (.int (Int32.ofNat x)), .val (.int b), .val (.int (Int32.ofNat c1))] [(.int ((Int32.ofNat c1) ^^^ b))] rfl ?_
  have e2 : Int32.ofNat c1 ^^^ b = Int32.ofNat (c1 ^^^ b.toInt.toNat) := by rw [← n_xor, ← eb]
  obtain ⟨c2, f2⟩ : ∃ c, c = c1 ^^^ b.toInt.toNat := ⟨_, rfl⟩
  refine Wp.at #[.val (.int (Int32.ofNat x)), .val (.int b), .val (.int (Int32.ofNat c1))] [(.int (Int32.ofNat c2))] ⟨rfl, (by rw [e2, ← f2] <;> rfl)⟩ ?_
  obtain ⟨c3, f3⟩ : ∃ c, c = c2 ^^^ ((c2 &&& 255) / 16) := ⟨_, rfl⟩
  refine Wp.run ok_stp0 8 26 #[.val (.int (Int32.ofNat x)), .val (.int b), .val (.int (Int32.ofNat c2))] [(.int ((Int32.ofNat c2) ^^^ (((Int32.ofNat c2) &&& (255 : Int32)) >>> ((4 : Int32) &&& 31))))] rfl ?_
  refine Wp.at #[.val (.int (Int32.ofNat x)), .val (.int b), .val (.int (Int32.ofNat c2))] [(.int (Int32.ofNat c3))] ⟨rfl, (by rw [st3, ← f3] <;> rfl)⟩ ?_
  obtain ⟨c4, f4⟩ : ∃ c, c = c3 ^^^ ((4096 * c3) &&& 65535) := ⟨_, rfl⟩
  refine Wp.run ok_stp0 5 32 #[.val (.int (Int32.ofNat x)), .val (.int b), .val (.int (Int32.ofNat c3))] [(.int ((Int32.ofNat c3) <<< ((12 : Int32) &&& 31))), (.int (Int32.ofNat c3))] rfl ?_
  refine Wp.ldcI ok_stp0 (G.1 _ (List.mem_of_getElem? (i := 134) rfl)) rfl ?_
  refine Wp.run ok_stp0 2 36 #[.val (.int (Int32.ofNat x)), .val (.int b), .val (.int (Int32.ofNat c3))] [(.int ((Int32.ofNat c3) ^^^ (((Int32.ofNat c3) <<< ((12 : Int32) &&& 31)) &&& (65535 : Int32))))] rfl ?_
  refine Wp.at #[.val (.int (Int32.ofNat x)), .val (.int b), .val (.int (Int32.ofNat c3))] [(.int (Int32.ofNat c4))] ⟨rfl, (by rw [st4, ← f4] <;> rfl)⟩ ?_
  refine Wp.run ok_stp0 7 45 #[.val (.int (Int32.ofNat x)), .val (.int b), .val (.int (Int32.ofNat c4))] [(.int (((Int32.ofNat c4) &&& (255 : Int32)) <<< ((5 : Int32) &&& 31))), (.int (Int32.ofNat c4))] rfl ?_
  refine Wp.ldcI ok_stp0 (G.1 _ (List.mem_of_getElem? (i := 134) rfl)) rfl ?_
  refine Wp.run ok_stp0 2 49 #[.val (.int (Int32.ofNat x)), .val (.int b), .val (.int (Int32.ofNat c4))] [(.int ((Int32.ofNat c4) ^^^ ((((Int32.ofNat c4) &&& (255 : Int32)) <<< ((5 : Int32) &&& 31)) &&& (65535 : Int32))))] rfl ?_
  refine Wp.at #[.val (.int (Int32.ofNat x)), .val (.int b), .val (.int (Int32.ofNat c4))] [(.int (Int32.ofNat (c4 ^^^ ((32 * (c4 &&& 255)) &&& 65535))))] ⟨rfl, (by rw [st5] <;> rfl)⟩ ?_
  refine Wp.run ok_stp0 2 51 #[.val (.int (Int32.ofNat x)), .val (.int b), .val (.int (Int32.ofNat (c4 ^^^ ((32 * (c4 &&& 255)) &&& 65535))))] [(.int (Int32.ofNat (c4 ^^^ ((32 * (c4 &&& 255)) &&& 65535))))] rfl ?_
  exact Wp.retI ok_stp0 (t := .int) rfl (by decide) rfl rfl rfl ⟨by rw [f4, f3, f2, e1]; rfl, rfl⟩

abbrev mt_fch : Mth := (⟨"holdfast/HashSlotOfPinLaw", "feedChar", "(IC)I"⟩, method_7_code, 4, some .int)
def tb_fch : Tab := [(0, .iload_n 1, 1), (1, .sipush 128, 3), (4, .if_icmp .ge 9, 3), (7, .iload_n 0, 1), (8, .iload_n 1, 1), (9, .invokestatic 45, 3), (12, .ireturn, 1), (13, .sipush 192, 3), (16, .iload_n 1, 1), (17, .bipush 6, 2), (19, .ishr, 1), (20, .ior, 1), (21, .istore_n 2, 1), (22, .sipush 128, 3), (25, .iload_n 1, 1), (26, .bipush 63, 2), (28, .iand, 1), (29, .ior, 1), (30, .istore_n 3, 1), (31, .iload_n 0, 1), (32, .iload_n 2, 1), (33, .invokestatic 45, 3), (36, .iload_n 3, 1), (37, .invokestatic 45, 3), (40, .ireturn, 1)]
theorem ok_fch : TabOk mt_fch.2.1 tb_fch := by
  intro x hx
  have q : tb_fch.all (fun x => decide (decode method_7_code x.1 = .ok x.2)) = true := by decide +kernel
  exact of_decide_eq_true (List.all_eq_true.mp q x hx)
theorem pl_fch : plainFor mt_fch.1 = true := by first | decide +kernel | exact plainFor_of_name (by first | (simp [plainName, overriddenIn]; done) | decide +kernel)
theorem pd_fch : parseMethodDescriptor "(IC)I" = some ⟨[.int, .char], some .int⟩ := by decide +kernel

set_option maxRecDepth 65536 in
set_option maxHeartbeats 4000000 in
theorem ct_fch {l : Launch} {Z : State} {a0 : Array Value} (G : Gd Z a0) {x : Nat} {c : Int32} (hx : x < 65536) (hw : 0 ≤ c.toInt ∧ c.toInt ≤ 2047) (h : Heap)  :
    Ct l Z EL1 mt_fch ({ frames := 1, cells := 0, slots := 0, locals := 14 } : Room) #[(.int (Int32.ofNat x)), (.int c)] h [] (fun v h' => v = some (.int (Int32.ofNat (crcS x (u8 c)))) ∧ h = h') := by
  refine Ct.of_wp pl_fch G.2.1 (Ls := #[.val (.int (Int32.ofNat x)), .val (.int c), .unset, .unset]) rfl ?_
  refine Wp.run ok_fch 2 4 #[.val (.int (Int32.ofNat x)), .val (.int c), .unset, .unset] [(.int (128 : Int32)), (.int c)] rfl ?_
  refine Wp.icmp ok_fch 13 rfl rfl (by decide) (by decide) (fun hc => ?_) (fun hc => ?_)
  · replace hc : ¬ c < (128 : Int32) := hc
    have hhi : ¬ c.toInt < 128 := fun y => hc (Int32.lt_iff_toInt_lt.mpr (by rw [show (128 : Int32).toInt = 128 from by decide]; exact y))
    refine Wp.run ok_fch 12 31 #[.val (.int (Int32.ofNat x)), .val (.int c), .val (.int ((192 : Int32) ||| (c >>> ((6 : Int32) &&& 31)))), .val (.int ((128 : Int32) ||| (c &&& (63 : Int32))))] [] rfl ?_
    refine Wp.at #[.val (.int (Int32.ofNat x)), .val (.int c), .val (.int (b1 c)), .val (.int (b2 c))] [] ⟨rfl, rfl⟩ ?_
    refine Wp.run ok_fch 2 33 #[.val (.int (Int32.ofNat x)), .val (.int c), .val (.int (b1 c)), .val (.int (b2 c))] [(.int (b1 c)), (.int (Int32.ofNat x))] rfl ?_
    refine Wp.callS ok_fch (argsL := [(.int (Int32.ofNat x)), (.int (b1 c))]) (rest := []) (ct_stp0 G hx (b1_lat hw) h) G.2.1 (G.1 _ (List.mem_of_getElem? (i := 131) rfl)) (G.1 _ (List.mem_of_getElem? (i := 132) rfl)) (G.1 _ (List.mem_of_getElem? (i := 3) rfl)) (G.1 _ (List.mem_of_getElem? (i := 133) rfl)) rfl rfl (by decide) pd_stp0 rfl rfl (Nat.le_of_ble_eq_true rfl) (Nat.le_of_ble_eq_true rfl) (Nat.le_of_ble_eq_true rfl) (Nat.le_of_ble_eq_true rfl) all0 ?_
    rintro _ _ ⟨rfl, rfl⟩ -
    refine Wp.run ok_fch 1 37 #[.val (.int (Int32.ofNat x)), .val (.int c), .val (.int (b1 c)), .val (.int (b2 c))] [(.int (b2 c)), (.int (Int32.ofNat (stp x (b1 c).toInt.toNat)))] rfl ?_
    refine Wp.callS ok_fch (argsL := [(.int (Int32.ofNat (stp x (b1 c).toInt.toNat))), (.int (b2 c))]) (rest := []) (ct_stp0 G (stp_lt hx (by have := b1_lat hw; omega)) (b2_lat c) h) G.2.1 (G.1 _ (List.mem_of_getElem? (i := 131) rfl)) (G.1 _ (List.mem_of_getElem? (i := 132) rfl)) (G.1 _ (List.mem_of_getElem? (i := 3) rfl)) (G.1 _ (List.mem_of_getElem? (i := 133) rfl)) rfl rfl (by decide) pd_stp0 rfl rfl (Nat.le_of_ble_eq_true rfl) (Nat.le_of_ble_eq_true rfl) (Nat.le_of_ble_eq_true rfl) (Nat.le_of_ble_eq_true rfl) all0 ?_
    rintro _ _ ⟨rfl, rfl⟩ -
    exact Wp.retI ok_fch (t := .int) rfl (by decide) rfl rfl rfl ⟨by rw [u8, if_neg hhi]; rfl, rfl⟩
  · replace hc : c < (128 : Int32) := hc
    have hlow : c.toInt < 128 := by have z := Int32.lt_iff_toInt_lt.mp hc; rw [show (128 : Int32).toInt = 128 from by decide] at z; exact z
    refine Wp.run ok_fch 2 9 #[.val (.int (Int32.ofNat x)), .val (.int c), .unset, .unset] [(.int c), (.int (Int32.ofNat x))] rfl ?_
    refine Wp.callS ok_fch (argsL := [(.int (Int32.ofNat x)), (.int c)]) (rest := []) (ct_stp0 G hx (b := c) (by omega) h) G.2.1 (G.1 _ (List.mem_of_getElem? (i := 131) rfl)) (G.1 _ (List.mem_of_getElem? (i := 132) rfl)) (G.1 _ (List.mem_of_getElem? (i := 3) rfl)) (G.1 _ (List.mem_of_getElem? (i := 133) rfl)) rfl rfl (by decide) pd_stp0 rfl rfl (Nat.le_of_ble_eq_true rfl) (Nat.le_of_ble_eq_true rfl) (Nat.le_of_ble_eq_true rfl) (Nat.le_of_ble_eq_true rfl) all0 ?_
    rintro _ _ ⟨rfl, rfl⟩ -
    exact Wp.retI ok_fch (t := .int) rfl (by decide) rfl rfl rfl ⟨by rw [u8, if_pos hlow]; rfl, rfl⟩

abbrev mt_att : Mth := (⟨"holdfast/HashSlotOfPinLaw", "at", "(I[CIII)I"⟩, method_6_code, 5, some .int)
def tb_att : Tab := [(0, .iload_n 3, 1), (1, .iload_n 2, 1), (2, .if_icmp .gt 17, 3), (5, .iload_n 2, 1), (6, .iload 4, 2), (8, .if_icmp .ge 11, 3), (11, .iload_n 0, 1), (12, .aload_n 1, 1), (13, .iload_n 2, 1), (14, .caload, 1), (15, .invokestatic 41, 3), (18, .ireturn, 1), (19, .iload_n 0, 1), (20, .ireturn, 1)]
theorem ok_att : TabOk mt_att.2.1 tb_att := by
  intro x hx
  have q : tb_att.all (fun x => decide (decode method_6_code x.1 = .ok x.2)) = true := by decide +kernel
  exact of_decide_eq_true (List.all_eq_true.mp q x hx)
theorem pl_att : plainFor mt_att.1 = true := by first | decide +kernel | exact plainFor_of_name (by first | (simp [plainName, overriddenIn]; done) | decide +kernel)
theorem pd_att : parseMethodDescriptor "(I[CIII)I" = some ⟨[.int, (.array .char), .int, .int, .int], some .int⟩ := by decide +kernel

set_option maxRecDepth 65536 in
set_option maxHeartbeats 4000000 in
theorem ct_att {l : Launch} {Z : State} {a0 : Array Value} (G : Gd Z a0) {a : Addr} {xs : List Int32} {x i s e : Nat} {c : Int32} (hx : x < 65536) (hi : i ≤ 4) (hs : s ≤ 4) (he : e ≤ 4) (hc : xs[i]? = some c) (hw : 0 ≤ c.toInt ∧ c.toInt ≤ 2047) (h : Heap) (A : Ar Z h a .char (xs.map .int)) :
    Ct l Z EL1 mt_att ({ frames := 2, cells := 0, slots := 0, locals := 29 } : Room) #[(.int (Int32.ofNat x)), (.ref a), (.int (Int32.ofNat i)), (.int (Int32.ofNat s)), (.int (Int32.ofNat e))] h [] (fun v h' => v = some (.int (Int32.ofNat (if s ≤ i ∧ i < e then crcS x (u8 c) else x))) ∧ h = h') := by
  refine Ct.of_wp pl_att G.2.1 (Ls := #[.val (.int (Int32.ofNat x)), .val (.ref a), .val (.int (Int32.ofNat i)), .val (.int (Int32.ofNat s)), .val (.int (Int32.ofNat e))]) rfl ?_
  refine Wp.run ok_att 2 2 #[.val (.int (Int32.ofNat x)), .val (.ref a), .val (.int (Int32.ofNat i)), .val (.int (Int32.ofNat s)), .val (.int (Int32.ofNat e))] [(.int (Int32.ofNat i)), (.int (Int32.ofNat s))] rfl ?_
  refine Wp.icmp ok_att 19 rfl rfl (by decide) (by decide) (fun ha => ?_) (fun ha => ?_)
  · replace ha : (Int32.ofNat i) < (Int32.ofNat s) := ha
    have g : i < s := (n_lt (by omega) (by omega)).mp ha
    refine Wp.run ok_att 1 20 #[.val (.int (Int32.ofNat x)), .val (.ref a), .val (.int (Int32.ofNat i)), .val (.int (Int32.ofNat s)), .val (.int (Int32.ofNat e))] [(.int (Int32.ofNat x))] rfl ?_
    exact Wp.retI ok_att (t := .int) rfl (by decide) rfl rfl rfl ⟨by rw [if_neg (by omega)], rfl⟩
  · replace ha : ¬ (Int32.ofNat i) < (Int32.ofNat s) := ha
    have g : s ≤ i := Nat.le_of_not_lt fun z => ha ((n_lt (by omega) (by omega)).mpr z)
    refine Wp.run ok_att 2 8 #[.val (.int (Int32.ofNat x)), .val (.ref a), .val (.int (Int32.ofNat i)), .val (.int (Int32.ofNat s)), .val (.int (Int32.ofNat e))] [(.int (Int32.ofNat e)), (.int (Int32.ofNat i))] rfl ?_
    refine Wp.icmp ok_att 19 rfl rfl (by decide) (by decide) (fun hb => ?_) (fun hb => ?_)
    · replace hb : ¬ (Int32.ofNat i) < (Int32.ofNat e) := hb
      have g2 : e ≤ i := Nat.le_of_not_lt fun z => hb ((n_lt (by omega) (by omega)).mpr z)
      refine Wp.run ok_att 1 20 #[.val (.int (Int32.ofNat x)), .val (.ref a), .val (.int (Int32.ofNat i)), .val (.int (Int32.ofNat s)), .val (.int (Int32.ofNat e))] [(.int (Int32.ofNat x))] rfl ?_
      exact Wp.retI ok_att (t := .int) rfl (by decide) rfl rfl rfl ⟨by rw [if_neg (by omega)], rfl⟩
    · replace hb : (Int32.ofNat i) < (Int32.ofNat e) := hb
      have g2 : i < e := (n_lt (by omega) (by omega)).mp hb
      refine Wp.run ok_att 3 14 #[.val (.int (Int32.ofNat x)), .val (.ref a), .val (.int (Int32.ofNat i)), .val (.int (Int32.ofNat s)), .val (.int (Int32.ofNat e))] [(.int (Int32.ofNat i)), (.ref a), (.int (Int32.ofNat x))] rfl ?_
      refine Wp.aget ok_att A (i := i) (v := (.int c)) rfl (by rw [List.getElem?_map, hc]; rfl) rfl rfl rfl ?_
      refine Wp.callS ok_att (argsL := [(.int (Int32.ofNat x)), (.int c)]) (rest := []) (ct_fch G hx hw h) G.2.1 (G.1 _ (List.mem_of_getElem? (i := 128) rfl)) (G.1 _ (List.mem_of_getElem? (i := 129) rfl)) (G.1 _ (List.mem_of_getElem? (i := 3) rfl)) (G.1 _ (List.mem_of_getElem? (i := 130) rfl)) rfl rfl (by decide) pd_fch rfl rfl (Nat.le_of_ble_eq_true rfl) (Nat.le_of_ble_eq_true rfl) (Nat.le_of_ble_eq_true rfl) (Nat.le_of_ble_eq_true rfl) all0 ?_
      rintro _ _ ⟨rfl, rfl⟩ -
      exact Wp.retI ok_att (t := .int) rfl (by decide) rfl rfl rfl ⟨by rw [if_pos ⟨g, g2⟩], rfl⟩

theorem u8_lat {c : Int32} (q : 0 ≤ c.toInt ∧ c.toInt ≤ 2047) : Lat (u8 c) := fun x hx => by
  unfold u8 at hx
  split at hx
  · rcases List.mem_singleton.mp hx with rfl; omega
  · rcases List.mem_cons.mp hx with rfl | hx
    · exact b1_lat q
    · rcases List.mem_singleton.mp hx with rfl; exact b2_lat c
abbrev atF (s e i x : Nat) (c : Int32) : Nat := if s ≤ i ∧ i < e then crcS x (u8 c) else x
theorem atF_lt {s e i x : Nat} {c : Int32} (hx : x < 65536) (q : 0 ≤ c.toInt ∧ c.toInt ≤ 2047) : atF s e i x c < 65536 := by
  unfold atF; split
  · exact crcS_lt _ _ (u8_lat q) hx
  · exact hx
theorem at_all {s e : Nat} {c0 c1 c2 c3 : Int32} (hs : s ≤ 4) (he : e ≤ 4) : atF s e 3 (atF s e 2 (atF s e 1 (atF s e 0 0 c0) c1) c2) c3 = crcS 0 (utf8 (([c0, c1, c2, c3].take e).drop s)) := by
  obtain rfl | rfl | rfl | rfl | rfl : s = 0 ∨ s = 1 ∨ s = 2 ∨ s = 3 ∨ s = 4 := by omega
  all_goals
    obtain rfl | rfl | rfl | rfl | rfl : e = 0 ∨ e = 1 ∨ e = 2 ∨ e = 3 ∨ e = 4 := by omega
    all_goals simp [atF, utf8, crcS_app, crcS]
theorem hp_some {K : List Int32} {n o c : Nat} (hn : n ≤ K.length) (hT : tg (K.take n) = some (o, c)) : hp (K.take n) = (K.take c).drop (o + 1) := by
  have h := (tg_inv hT).2.2.2.1
  rw [List.length_take] at h
  unfold hp; rw [hT]
  show ((K.take n).drop (o + 1)).take (c - (o + 1)) = _
  rw [← List.drop_take, List.take_take, Nat.min_eq_left (by omega)]
theorem hp_none {ks : List Int32} (hT : tg ks = none) : hp ks = ks := by unfold hp; rw [hT]
end Jvm.Pilot.@@N@@
namespace Jvm.Pilot.@@N@@
open Jvm Jvm.ClassFile Sem Op Lib Jvm.Free Jvm.Stand Jvm.LawKit Jvm.RoadKit Bundle Jvm.Pilot.@@N@@.Jvm.D Jvm.Pilot.@@N@@.Kw
abbrev mt_law : Mth := (x, code, maxLocals, ret)
def tb_law : Tab := [(0, .iload_n 0, 1), (1, .ldc 7, 2), (3, .iand, 1), (4, .iconst 5, 1), (5, .irem, 1), (6, .istore 5, 2), (8, .iload_n 1, 1), (9, .invokestatic 8, 3), (12, .istore 6, 2), (14, .iload_n 2, 1), (15, .invokestatic 8, 3), (18, .istore 7, 2), (20, .iload_n 3, 1), (21, .invokestatic 8, 3), (24, .istore 8, 2), (26, .iload 4, 2), (28, .invokestatic 8, 3), (31, .istore 9, 2), (33, .iconst 4, 1), (34, .newarray .char, 2), (36, .dup, 1), (37, .iconst 0, 1), (38, .iload 6, 2), (40, .castore, 1), (41, .dup, 1), (42, .iconst 1, 1), (43, .iload 7, 2), (45, .castore, 1), (46, .dup, 1), (47, .iconst 2, 1), (48, .iload 8, 2), (50, .castore, 1), (51, .dup, 1), (52, .iconst 3, 1), (53, .iload 9, 2), (55, .castore, 1), (56, .astore 10, 2), (58, .iload 5, 2), (60, .iload 6, 2), (62, .iload 7, 2), (64, .iload 8, 2), (66, .iload 9, 2), (68, .invokestatic 14, 3), (71, .astore 11, 2), (73, .aload 10, 2), (75, .iload 5, 2), (77, .bipush 123, 2), (79, .iconst 0, 1), (80, .invokestatic 18, 3), (83, .istore 12, 2), (85, .iload 12, 2), (87, .ifCond .ge 7, 3), (90, .iconst (-1), 1), (91, .goto 16, 3), (94, .aload 10, 2), (96, .iload 5, 2), (98, .bipush 125, 2), (100, .iload 12, 2), (102, .iconst 1, 1), (103, .iadd, 1), (104, .invokestatic 18, 3), (107, .istore 13, 2), (109, .iconst 0, 1), (110, .istore 14, 2), (112, .iload 5, 2), (114, .istore 15, 2), (116, .iload 13, 2), (118, .iload 12, 2), (120, .iconst 1, 1), (121, .iadd, 1), (122, .if_icmp .le 13, 3), (125, .iload 12, 2), (127, .iconst 1, 1), (128, .iadd, 1), (129, .istore 14, 2), (131, .iload 13, 2), (133, .istore 15, 2), (135, .iconst 0, 1), (136, .istore 16, 2), (138, .iload 16, 2), (140, .aload 10, 2), (142, .iconst 0, 1), (143, .iload 14, 2), (145, .iload 15, 2), (147, .invokestatic 22, 3), (150, .istore 16, 2), (152, .iload 16, 2), (154, .aload 10, 2), (156, .iconst 1, 1), (157, .iload 14, 2), (159, .iload 15, 2), (161, .invokestatic 22, 3), (164, .istore 16, 2), (166, .iload 16, 2), (168, .aload 10, 2), (170, .iconst 2, 1), (171, .iload 14, 2), (173, .iload 15, 2), (175, .invokestatic 22, 3), (178, .istore 16, 2), (180, .iload 16, 2), (182, .aload 10, 2), (184, .iconst 3, 1), (185, .iload 14, 2), (187, .iload 15, 2), (189, .invokestatic 22, 3), (192, .istore 16, 2), (194, .iload 16, 2), (196, .sipush 16383, 3), (199, .iand, 1), (200, .istore 17, 2), (202, .aload 11, 2), (204, .invokestatic 26, 3), (207, .istore 18, 2), (209, .iload 18, 2), (211, .iload 17, 2), (213, .if_icmp .ne 7, 3), (216, .iconst 1, 1), (217, .goto 4, 3), (220, .iconst 0, 1), (221, .ireturn, 1)]
theorem ok_law : TabOk mt_law.2.1 tb_law := by
  intro x hx
  have q : tb_law.all (fun x => decide (decode code x.1 = .ok x.2)) = true := by decide +kernel
  exact of_decide_eq_true (List.all_eq_true.mp q x hx)
theorem pl_law : plainFor mt_law.1 = true := by first | decide +kernel | exact plainFor_of_name (by first | (simp [plainName, overriddenIn]; done) | decide +kernel)
theorem pd_law : parseMethodDescriptor "(IIIII)Z" = some ⟨[.int, .int, .int, .int, .int], some .boolean⟩ := by decide +kernel

set_option maxRecDepth 65536 in
set_option maxHeartbeats 8000000 in
theorem ct_law {l : Launch} {Z : State} {a0 : Array Value} (G : Gd Z a0) (i0 : Int32) (i1 : Int32) (i2 : Int32) (i3 : Int32) (i4 : Int32) (h : Heap) :
    CtW tables_1 l Z EL1 mt_law room_1 #[(.int i0), (.int i1), (.int i2), (.int i3), (.int i4)] h [] (fun v _ => v = some (.int 1)) := by
  refine Ct.of_wp pl_law G.2.1 (Ls := #[.val (.int i0), .val (.int i1), .val (.int i2), .val (.int i3), .val (.int i4), .unset, .unset, .unset, .unset, .unset, .unset, .unset, .unset, .unset, .unset, .unset, .unset, .unset, .unset]) rfl ?_
  obtain ⟨n, hn5, en⟩ := mod_n i0 (d := 5) (by decide) (by decide)
  refine Wp.run ok_law 1 1 #[.val (.int i0), .val (.int i1), .val (.int i2), .val (.int i3), .val (.int i4), .unset, .unset, .unset, .unset, .unset, .unset, .unset, .unset, .unset, .unset, .unset, .unset, .unset, .unset] [(.int i0)] rfl ?_
  refine Wp.ldcI ok_law (G.1 _ (List.mem_of_getElem? (i := 0) rfl)) rfl ?_
  refine Wp.run ok_law 2 5 #[.val (.int i0), .val (.int i1), .val (.int i2), .val (.int i3), .val (.int i4), .unset, .unset, .unset, .unset, .unset, .unset, .unset, .unset, .unset, .unset, .unset, .unset, .unset, .unset] [(.int (5 : Int32)), (.int (i0 &&& (2147483647 : Int32)))] rfl ?_
  refine Wp.irem ok_law rfl rfl (by decide) ?_
  refine Wp.at #[.val (.int i0), .val (.int i1), .val (.int i2), .val (.int i3), .val (.int i4), .unset, .unset, .unset, .unset, .unset, .unset, .unset, .unset, .unset, .unset, .unset, .unset, .unset, .unset] [(.int (Int32.ofNat n))] ⟨rfl, (by rw [show (i0 &&& (2147483647 : Int32)) % (5 : Int32) = Int32.ofNat n from en] <;> rfl)⟩ ?_
  refine Wp.run ok_law 2 9 #[.val (.int i0), .val (.int i1), .val (.int i2), .val (.int i3), .val (.int i4), .val (.int (Int32.ofNat n)), .unset, .unset, .unset, .unset, .unset, .unset, .unset, .unset, .unset, .unset, .unset, .unset, .unset] [(.int i1)] rfl ?_
  refine Wp.callS ok_law (argsL := [(.int i1)]) (rest := []) (ct_drw G (x := i1) h) G.2.1 (G.1 _ (List.mem_of_getElem? (i := 1) rfl)) (G.1 _ (List.mem_of_getElem? (i := 2) rfl)) (G.1 _ (List.mem_of_getElem? (i := 3) rfl)) (G.1 _ (List.mem_of_getElem? (i := 4) rfl)) rfl rfl (by decide) pd_drw rfl rfl (Nat.le_of_ble_eq_true rfl) (Nat.le_of_ble_eq_true rfl) (Nat.le_of_ble_eq_true rfl) (Nat.le_of_ble_eq_true rfl) all0 ?_
  rintro _ _ ⟨c0, rfl, rfl, L0⟩ -
  refine Wp.run ok_law 2 15 #[.val (.int i0), .val (.int i1), .val (.int i2), .val (.int i3), .val (.int i4), .val (.int (Int32.ofNat n)), .val (.int c0), .unset, .unset, .unset, .unset, .unset, .unset, .unset, .unset, .unset, .unset, .unset, .unset] [(.int i2)] rfl ?_
  refine Wp.callS ok_law (argsL := [(.int i2)]) (rest := []) (ct_drw G (x := i2) h) G.2.1 (G.1 _ (List.mem_of_getElem? (i := 1) rfl)) (G.1 _ (List.mem_of_getElem? (i := 2) rfl)) (G.1 _ (List.mem_of_getElem? (i := 3) rfl)) (G.1 _ (List.mem_of_getElem? (i := 4) rfl)) rfl rfl (by decide) pd_drw rfl rfl (Nat.le_of_ble_eq_true rfl) (Nat.le_of_ble_eq_true rfl) (Nat.le_of_ble_eq_true rfl) (Nat.le_of_ble_eq_true rfl) all0 ?_
  rintro _ _ ⟨c1, rfl, rfl, L1⟩ -
  refine Wp.run ok_law 2 21 #[.val (.int i0), .val (.int i1), .val (.int i2), .val (.int i3), .val (.int i4), .val (.int (Int32.ofNat n)), .val (.int c0), .val (.int c1), .unset, .unset, .unset, .unset, .unset, .unset, .unset, .unset, .unset, .unset, .unset] [(.int i3)] rfl ?_
  refine Wp.callS ok_law (argsL := [(.int i3)]) (rest := []) (ct_drw G (x := i3) h) G.2.1 (G.1 _ (List.mem_of_getElem? (i := 1) rfl)) (G.1 _ (List.mem_of_getElem? (i := 2) rfl)) (G.1 _ (List.mem_of_getElem? (i := 3) rfl)) (G.1 _ (List.mem_of_getElem? (i := 4) rfl)) rfl rfl (by decide) pd_drw rfl rfl (Nat.le_of_ble_eq_true rfl) (Nat.le_of_ble_eq_true rfl) (Nat.le_of_ble_eq_true rfl) (Nat.le_of_ble_eq_true rfl) all0 ?_
  rintro _ _ ⟨c2, rfl, rfl, L2⟩ -
  refine Wp.run ok_law 2 28 #[.val (.int i0), .val (.int i1), .val (.int i2), .val (.int i3), .val (.int i4), .val (.int (Int32.ofNat n)), .val (.int c0), .val (.int c1), .val (.int c2), .unset, .unset, .unset, .unset, .unset, .unset, .unset, .unset, .unset, .unset] [(.int i4)] rfl ?_
  refine Wp.callS ok_law (argsL := [(.int i4)]) (rest := []) (ct_drw G (x := i4) h) G.2.1 (G.1 _ (List.mem_of_getElem? (i := 1) rfl)) (G.1 _ (List.mem_of_getElem? (i := 2) rfl)) (G.1 _ (List.mem_of_getElem? (i := 3) rfl)) (G.1 _ (List.mem_of_getElem? (i := 4) rfl)) rfl rfl (by decide) pd_drw rfl rfl (Nat.le_of_ble_eq_true rfl) (Nat.le_of_ble_eq_true rfl) (Nat.le_of_ble_eq_true rfl) (Nat.le_of_ble_eq_true rfl) all0 ?_
  rintro _ _ ⟨c3, rfl, rfl, L3⟩ -
  have M0 : 0 ≤ c0.toInt ∧ c0.toInt ≤ 65535 := by omega
  have M1 : 0 ≤ c1.toInt ∧ c1.toInt ≤ 65535 := by omega
  have M2 : 0 ≤ c2.toInt ∧ c2.toInt ≤ 65535 := by omega
  have M3 : 0 ≤ c3.toInt ∧ c3.toInt ≤ 65535 := by omega
  refine Wp.run ok_law 2 34 #[.val (.int i0), .val (.int i1), .val (.int i2), .val (.int i3), .val (.int i4), .val (.int (Int32.ofNat n)), .val (.int c0), .val (.int c1), .val (.int c2), .val (.int c3), .unset, .unset, .unset, .unset, .unset, .unset, .unset, .unset, .unset] [(.int (4 : Int32))] rfl ?_
  refine Wp.newP ok_law (len := 4) (cap := 4) (G.1 _ (List.mem_of_getElem? (i := 5) rfl)) rfl rfl rfl (Nat.le_of_ble_eq_true rfl) (Nat.le_of_ble_eq_true rfl) (Nat.le_of_ble_eq_true rfl) (Nat.le_of_ble_eq_true rfl) ?_
  intro hm Em Am
  refine Wp.run ok_law 3 40 #[.val (.int i0), .val (.int i1), .val (.int i2), .val (.int i3), .val (.int i4), .val (.int (Int32.ofNat n)), .val (.int c0), .val (.int c1), .val (.int c2), .val (.int c3), .unset, .unset, .unset, .unset, .unset, .unset, .unset, .unset, .unset] [(.int c0), (.int (0 : Int32)), (.ref h.size), (.ref h.size)] rfl ?_
  refine Wp.aput ok_law Am (List.mem_of_getElem? (i := 0) rfl) (i := 0) rfl (Nat.le_of_ble_eq_true rfl) rfl (fitw M0) rfl rfl rfl ?_
  intro hq1 wq2 Aq3
  refine Wp.run ok_law 3 45 #[.val (.int i0), .val (.int i1), .val (.int i2), .val (.int i3), .val (.int i4), .val (.int (Int32.ofNat n)), .val (.int c0), .val (.int c1), .val (.int c2), .val (.int c3), .unset, .unset, .unset, .unset, .unset, .unset, .unset, .unset, .unset] [(.int c1), (.int (1 : Int32)), (.ref h.size), (.ref h.size)] rfl ?_
  refine Wp.aput ok_law Aq3 (List.mem_of_getElem? (i := 0) rfl) (i := 1) rfl (Nat.le_of_ble_eq_true rfl) rfl (fitw M1) rfl rfl rfl ?_
  intro hq4 wq5 Aq6
  refine Wp.run ok_law 3 50 #[.val (.int i0), .val (.int i1), .val (.int i2), .val (.int i3), .val (.int i4), .val (.int (Int32.ofNat n)), .val (.int c0), .val (.int c1), .val (.int c2), .val (.int c3), .unset, .unset, .unset, .unset, .unset, .unset, .unset, .unset, .unset] [(.int c2), (.int (2 : Int32)), (.ref h.size), (.ref h.size)] rfl ?_
  refine Wp.aput ok_law Aq6 (List.mem_of_getElem? (i := 0) rfl) (i := 2) rfl (Nat.le_of_ble_eq_true rfl) rfl (fitw M2) rfl rfl rfl ?_
  intro hq7 wq8 Aq9
  refine Wp.run ok_law 3 55 #[.val (.int i0), .val (.int i1), .val (.int i2), .val (.int i3), .val (.int i4), .val (.int (Int32.ofNat n)), .val (.int c0), .val (.int c1), .val (.int c2), .val (.int c3), .unset, .unset, .unset, .unset, .unset, .unset, .unset, .unset, .unset] [(.int c3), (.int (3 : Int32)), (.ref h.size), (.ref h.size)] rfl ?_
  refine Wp.aput ok_law Aq9 (List.mem_of_getElem? (i := 0) rfl) (i := 3) rfl (Nat.le_of_ble_eq_true rfl) rfl (fitw M3) rfl rfl rfl ?_
  intro hq10 wq11 Aq12
  refine Wp.run ok_law 6 68 #[.val (.int i0), .val (.int i1), .val (.int i2), .val (.int i3), .val (.int i4), .val (.int (Int32.ofNat n)), .val (.int c0), .val (.int c1), .val (.int c2), .val (.int c3), .val (.ref h.size), .unset, .unset, .unset, .unset, .unset, .unset, .unset, .unset] [(.int c3), (.int c2), (.int c1), (.int c0), (.int (Int32.ofNat n))] rfl ?_
  have A4 : Ar Z hq10 h.size .char ([c0, c1, c2, c3].map Value.int) := Aq12
  refine Wp.callS ok_law (argsL := [(.int (Int32.ofNat n)), (.int c0), (.int c1), (.int c2), (.int c3)]) (rest := []) (ct_mak G (k := n) (by omega) M0 M1 M2 M3 hq10) G.2.1 (G.1 _ (List.mem_of_getElem? (i := 6) rfl)) (G.1 _ (List.mem_of_getElem? (i := 7) rfl)) (G.1 _ (List.mem_of_getElem? (i := 3) rfl)) (G.1 _ (List.mem_of_getElem? (i := 8) rfl)) rfl rfl (by decide) pd_mak rfl rfl (Nat.le_of_ble_eq_true rfl) (Nat.le_of_ble_eq_true rfl) (Nat.le_of_ble_eq_true rfl) (Nat.le_of_ble_eq_true rfl) all0 ?_
  rintro _ h1 ⟨key, rfl, E1, S1⟩ -
  refine Wp.run ok_law 5 80 #[.val (.int i0), .val (.int i1), .val (.int i2), .val (.int i3), .val (.int i4), .val (.int (Int32.ofNat n)), .val (.int c0), .val (.int c1), .val (.int c2), .val (.int c3), .val (.ref h.size), .val (.ref key), .unset, .unset, .unset, .unset, .unset, .unset, .unset] [(.int (0 : Int32)), (.int (123 : Int32)), (.int (Int32.ofNat n)), (.ref h.size)] rfl ?_
  have A5 := A4.ext E1
  have hkl : ([c0, c1, c2, c3].take n).length = n := by rw [List.length_take]; simp; omega
  have hW : W11 ([c0, c1, c2, c3].take n) := fun x hx => by
    have z := List.mem_of_mem_take hx
    simp at z; rcases z with rfl | rfl | rfl | rfl <;> assumption
  have r135 : ∀ (op cl : Int32) (s e : Nat), s ≤ 4 → e ≤ 4 → hp ([c0, c1, c2, c3].take n) = ([c0, c1, c2, c3].take e).drop s → Wp l Z EL1 mt_law room_1 h1 [h.size] 7 60 135 #[.val (.int i0), .val (.int i1), .val (.int i2), .val (.int i3), .val (.int i4), .val (.int (Int32.ofNat n)), .val (.int c0), .val (.int c1), .val (.int c2), .val (.int c3), .val (.ref h.size), .val (.ref key), .val (.int op), .val (.int cl), .val (.int (Int32.ofNat s)), .val (.int (Int32.ofNat e)), .unset, .unset, .unset] [] (fun v _ => v = some (.int 1)) := by
    intro op cl s e hs he hpe
    refine Wp.run ok_law 7 147 #[.val (.int i0), .val (.int i1), .val (.int i2), .val (.int i3), .val (.int i4), .val (.int (Int32.ofNat n)), .val (.int c0), .val (.int c1), .val (.int c2), .val (.int c3), .val (.ref h.size), .val (.ref key), .val (.int op), .val (.int cl), .val (.int (Int32.ofNat s)), .val (.int (Int32.ofNat e)), .val (.int (0 : Int32)), .unset, .unset] [(.int (Int32.ofNat e)), (.int (Int32.ofNat s)), (.int (0 : Int32)), (.ref h.size), (.int (0 : Int32))] rfl ?_
    refine Wp.at #[.val (.int i0), .val (.int i1), .val (.int i2), .val (.int i3), .val (.int i4), .val (.int (Int32.ofNat n)), .val (.int c0), .val (.int c1), .val (.int c2), .val (.int c3), .val (.ref h.size), .val (.ref key), .val (.int op), .val (.int cl), .val (.int (Int32.ofNat s)), .val (.int (Int32.ofNat e)), .val (.int (Int32.ofNat 0)), .unset, .unset] [(.int (Int32.ofNat e)), (.int (Int32.ofNat s)), (.int (Int32.ofNat 0)), (.ref h.size), (.int (Int32.ofNat 0))] ⟨rfl, rfl⟩ ?_
    have x0 : 0 < 65536 := by decide
    refine Wp.callS ok_law (argsL := [(.int (Int32.ofNat 0)), (.ref h.size), (.int (Int32.ofNat 0)), (.int (Int32.ofNat s)), (.int (Int32.ofNat e))]) (rest := []) (ct_att G (i := 0) (s := s) (e := e) (c := c0) (xs := [c0, c1, c2, c3]) x0 (by decide) hs he rfl L0 h1 A5) G.2.1 (G.1 _ (List.mem_of_getElem? (i := 33) rfl)) (G.1 _ (List.mem_of_getElem? (i := 34) rfl)) (G.1 _ (List.mem_of_getElem? (i := 3) rfl)) (G.1 _ (List.mem_of_getElem? (i := 35) rfl)) rfl rfl (by decide) pd_att rfl rfl (Nat.le_of_ble_eq_true rfl) (Nat.le_of_ble_eq_true rfl) (Nat.le_of_ble_eq_true rfl) (Nat.le_of_ble_eq_true rfl) all0 ?_
    rintro _ _ ⟨rfl, rfl⟩ -
    refine Wp.run ok_law 6 161 #[.val (.int i0), .val (.int i1), .val (.int i2), .val (.int i3), .val (.int i4), .val (.int (Int32.ofNat n)), .val (.int c0), .val (.int c1), .val (.int c2), .val (.int c3), .val (.ref h.size), .val (.ref key), .val (.int op), .val (.int cl), .val (.int (Int32.ofNat s)), .val (.int (Int32.ofNat e)), .val (.int (Int32.ofNat (atF s e 0 0 c0))), .unset, .unset] [(.int (Int32.ofNat e)), (.int (Int32.ofNat s)), (.int (1 : Int32)), (.ref h.size), (.int (Int32.ofNat (atF s e 0 0 c0)))] rfl ?_
    refine Wp.at #[.val (.int i0), .val (.int i1), .val (.int i2), .val (.int i3), .val (.int i4), .val (.int (Int32.ofNat n)), .val (.int c0), .val (.int c1), .val (.int c2), .val (.int c3), .val (.ref h.size), .val (.ref key), .val (.int op), .val (.int cl), .val (.int (Int32.ofNat s)), .val (.int (Int32.ofNat e)), .val (.int (Int32.ofNat (atF s e 0 0 c0))), .unset, .unset] [(.int (Int32.ofNat e)), (.int (Int32.ofNat s)), (.int (Int32.ofNat 1)), (.ref h.size), (.int (Int32.ofNat (atF s e 0 0 c0)))] ⟨rfl, rfl⟩ ?_
    have x1 : atF s e 0 0 c0 < 65536 := atF_lt x0 L0
    refine Wp.callS ok_law (argsL := [(.int (Int32.ofNat (atF s e 0 0 c0))), (.ref h.size), (.int (Int32.ofNat 1)), (.int (Int32.ofNat s)), (.int (Int32.ofNat e))]) (rest := []) (ct_att G (i := 1) (s := s) (e := e) (c := c1) (xs := [c0, c1, c2, c3]) x1 (by decide) hs he rfl L1 h1 A5) G.2.1 (G.1 _ (List.mem_of_getElem? (i := 33) rfl)) (G.1 _ (List.mem_of_getElem? (i := 34) rfl)) (G.1 _ (List.mem_of_getElem? (i := 3) rfl)) (G.1 _ (List.mem_of_getElem? (i := 35) rfl)) rfl rfl (by decide) pd_att rfl rfl (Nat.le_of_ble_eq_true rfl) (Nat.le_of_ble_eq_true rfl) (Nat.le_of_ble_eq_true rfl) (Nat.le_of_ble_eq_true rfl) all0 ?_
    rintro _ _ ⟨rfl, rfl⟩ -
    refine Wp.run ok_law 6 175 #[.val (.int i0), .val (.int i1), .val (.int i2), .val (.int i3), .val (.int i4), .val (.int (Int32.ofNat n)), .val (.int c0), .val (.int c1), .val (.int c2), .val (.int c3), .val (.ref h.size), .val (.ref key), .val (.int op), .val (.int cl), .val (.int (Int32.ofNat s)), .val (.int (Int32.ofNat e)), .val (.int (Int32.ofNat (atF s e 1 (atF s e 0 0 c0) c1))), .unset, .unset] [(.int (Int32.ofNat e)), (.int (Int32.ofNat s)), (.int (2 : Int32)), (.ref h.size), (.int (Int32.ofNat (atF s e 1 (atF s e 0 0 c0) c1)))] rfl ?_
    refine Wp.at #[.val (.int i0), .val (.int i1), .val (.int i2), .val (.int i3), .val (.int i4), .val (.int (Int32.ofNat n)), .val (.int c0), .val (.int c1), .val (.int c2), .val (.int c3), .val (.ref h.size), .val (.ref key), .val (.int op), .val (.int cl), .val (.int (Int32.ofNat s)), .val (.int (Int32.ofNat e)), .val (.int (Int32.ofNat (atF s e 1 (atF s e 0 0 c0) c1))), .unset, .unset] [(.int (Int32.ofNat e)), (.int (Int32.ofNat s)), (.int (Int32.ofNat 2)), (.ref h.size), (.int (Int32.ofNat (atF s e 1 (atF s e 0 0 c0) c1)))] ⟨rfl, rfl⟩ ?_
    have x2 : atF s e 1 (atF s e 0 0 c0) c1 < 65536 := atF_lt x1 L1
    refine Wp.callS ok_law (argsL := [(.int (Int32.ofNat (atF s e 1 (atF s e 0 0 c0) c1))), (.ref h.size), (.int (Int32.ofNat 2)), (.int (Int32.ofNat s)), (.int (Int32.ofNat e))]) (rest := []) (ct_att G (i := 2) (s := s) (e := e) (c := c2) (xs := [c0, c1, c2, c3]) x2 (by decide) hs he rfl L2 h1 A5) G.2.1 (G.1 _ (List.mem_of_getElem? (i := 33) rfl)) (G.1 _ (List.mem_of_getElem? (i := 34) rfl)) (G.1 _ (List.mem_of_getElem? (i := 3) rfl)) (G.1 _ (List.mem_of_getElem? (i := 35) rfl)) rfl rfl (by decide) pd_att rfl rfl (Nat.le_of_ble_eq_true rfl) (Nat.le_of_ble_eq_true rfl) (Nat.le_of_ble_eq_true rfl) (Nat.le_of_ble_eq_true rfl) all0 ?_
    rintro _ _ ⟨rfl, rfl⟩ -
    refine Wp.run ok_law 6 189 #[.val (.int i0), .val (.int i1), .val (.int i2), .val (.int i3), .val (.int i4), .val (.int (Int32.ofNat n)), .val (.int c0), .val (.int c1), .val (.int c2), .val (.int c3), .val (.ref h.size), .val (.ref key), .val (.int op), .val (.int cl), .val (.int (Int32.ofNat s)), .val (.int (Int32.ofNat e)), .val (.int (Int32.ofNat (atF s e 2 (atF s e 1 (atF s e 0 0 c0) c1) c2))), .unset, .unset] [(.int (Int32.ofNat e)), (.int (Int32.ofNat s)), (.int (3 : Int32)), (.ref h.size), (.int (Int32.ofNat (atF s e 2 (atF s e 1 (atF s e 0 0 c0) c1) c2)))] rfl ?_
    refine Wp.at #[.val (.int i0), .val (.int i1), .val (.int i2), .val (.int i3), .val (.int i4), .val (.int (Int32.ofNat n)), .val (.int c0), .val (.int c1), .val (.int c2), .val (.int c3), .val (.ref h.size), .val (.ref key), .val (.int op), .val (.int cl), .val (.int (Int32.ofNat s)), .val (.int (Int32.ofNat e)), .val (.int (Int32.ofNat (atF s e 2 (atF s e 1 (atF s e 0 0 c0) c1) c2))), .unset, .unset] [(.int (Int32.ofNat e)), (.int (Int32.ofNat s)), (.int (Int32.ofNat 3)), (.ref h.size), (.int (Int32.ofNat (atF s e 2 (atF s e 1 (atF s e 0 0 c0) c1) c2)))] ⟨rfl, rfl⟩ ?_
    have x3 : atF s e 2 (atF s e 1 (atF s e 0 0 c0) c1) c2 < 65536 := atF_lt x2 L2
    refine Wp.callS ok_law (argsL := [(.int (Int32.ofNat (atF s e 2 (atF s e 1 (atF s e 0 0 c0) c1) c2))), (.ref h.size), (.int (Int32.ofNat 3)), (.int (Int32.ofNat s)), (.int (Int32.ofNat e))]) (rest := []) (ct_att G (i := 3) (s := s) (e := e) (c := c3) (xs := [c0, c1, c2, c3]) x3 (by decide) hs he rfl L3 h1 A5) G.2.1 (G.1 _ (List.mem_of_getElem? (i := 33) rfl)) (G.1 _ (List.mem_of_getElem? (i := 34) rfl)) (G.1 _ (List.mem_of_getElem? (i := 3) rfl)) (G.1 _ (List.mem_of_getElem? (i := 35) rfl)) rfl rfl (by decide) pd_att rfl rfl (Nat.le_of_ble_eq_true rfl) (Nat.le_of_ble_eq_true rfl) (Nat.le_of_ble_eq_true rfl) (Nat.le_of_ble_eq_true rfl) all0 ?_
    rintro _ _ ⟨rfl, rfl⟩ -
    have x4 : atF s e 3 (atF s e 2 (atF s e 1 (atF s e 0 0 c0) c1) c2) c3 < 65536 := atF_lt x3 L3
    refine Wp.run ok_law 4 200 #[.val (.int i0), .val (.int i1), .val (.int i2), .val (.int i3), .val (.int i4), .val (.int (Int32.ofNat n)), .val (.int c0), .val (.int c1), .val (.int c2), .val (.int c3), .val (.ref h.size), .val (.ref key), .val (.int op), .val (.int cl), .val (.int (Int32.ofNat s)), .val (.int (Int32.ofNat e)), .val (.int (Int32.ofNat (atF s e 3 (atF s e 2 (atF s e 1 (atF s e 0 0 c0) c1) c2) c3))), .unset, .unset] [(.int ((Int32.ofNat (atF s e 3 (atF s e 2 (atF s e 1 (atF s e 0 0 c0) c1) c2) c3)) &&& (16383 : Int32)))] rfl ?_
    refine Wp.at #[.val (.int i0), .val (.int i1), .val (.int i2), .val (.int i3), .val (.int i4), .val (.int (Int32.ofNat n)), .val (.int c0), .val (.int c1), .val (.int c2), .val (.int c3), .val (.ref h.size), .val (.ref key), .val (.int op), .val (.int cl), .val (.int (Int32.ofNat s)), .val (.int (Int32.ofNat e)), .val (.int (Int32.ofNat (atF s e 3 (atF s e 2 (atF s e 1 (atF s e 0 0 c0) c1) c2) c3))), .unset, .unset] [(.int (Int32.ofNat (crcS 0 (utf8 (hp ([c0, c1, c2, c3].take n))) % 16384)))] ⟨rfl, (by rw [show (16383 : Int32) = Int32.ofNat 16383 from rfl, n_and, show ∀ x : Nat, x &&& 16383 = x % 16384 from fun x => and_mod x 14, at_all hs he, ← hpe] <;> rfl)⟩ ?_
    refine Wp.run ok_law 2 204 #[.val (.int i0), .val (.int i1), .val (.int i2), .val (.int i3), .val (.int i4), .val (.int (Int32.ofNat n)), .val (.int c0), .val (.int c1), .val (.int c2), .val (.int c3), .val (.ref h.size), .val (.ref key), .val (.int op), .val (.int cl), .val (.int (Int32.ofNat s)), .val (.int (Int32.ofNat e)), .val (.int (Int32.ofNat (atF s e 3 (atF s e 2 (atF s e 1 (atF s e 0 0 c0) c1) c2) c3))), .val (.int (Int32.ofNat (crcS 0 (utf8 (hp ([c0, c1, c2, c3].take n))) % 16384))), .unset] [(.ref key)] rfl ?_
    refine Wp.callS ok_law (argsL := [(.ref key)]) (rest := []) (ct_hof G hW (by omega) h1 S1) G.2.1 (G.1 _ (List.mem_of_getElem? (i := 36) rfl)) (G.1 _ (List.mem_of_getElem? (i := 37) rfl)) (G.1 _ (List.mem_of_getElem? (i := 38) rfl)) (G.1 _ (List.mem_of_getElem? (i := 39) rfl)) rfl rfl (by decide) pd_hof rfl rfl (Nat.le_of_ble_eq_true rfl) (Nat.le_of_ble_eq_true rfl) (Nat.le_of_ble_eq_true rfl) (Nat.le_of_ble_eq_true rfl) all0 ?_
    rintro _ h2 rfl -
    have eqc : crcB 0 (utf8 (hp ([c0, c1, c2, c3].take n))) % 65536 = crcS 0 (utf8 (hp ([c0, c1, c2, c3].take n))) := crc_eq (x := 0) (utf8_lat (fun x hx => hW x (hp_mem hx)))
    refine Wp.run ok_law 3 213 #[.val (.int i0), .val (.int i1), .val (.int i2), .val (.int i3), .val (.int i4), .val (.int (Int32.ofNat n)), .val (.int c0), .val (.int c1), .val (.int c2), .val (.int c3), .val (.ref h.size), .val (.ref key), .val (.int op), .val (.int cl), .val (.int (Int32.ofNat s)), .val (.int (Int32.ofNat e)), .val (.int (Int32.ofNat (atF s e 3 (atF s e 2 (atF s e 1 (atF s e 0 0 c0) c1) c2) c3))), .val (.int (Int32.ofNat (crcS 0 (utf8 (hp ([c0, c1, c2, c3].take n))) % 16384))), .val (.int (Int32.ofNat (crcB 0 (utf8 (hp ([c0, c1, c2, c3].take n))) % 65536 % 16384)))] [(.int (Int32.ofNat (crcS 0 (utf8 (hp ([c0, c1, c2, c3].take n))) % 16384))), (.int (Int32.ofNat (crcB 0 (utf8 (hp ([c0, c1, c2, c3].take n))) % 65536 % 16384)))] rfl ?_
    refine Wp.icmpF ok_law rfl rfl (show (Int32.ofNat (crcB 0 (utf8 (hp ([c0, c1, c2, c3].take n))) % 65536 % 16384)) = (Int32.ofNat (crcS 0 (utf8 (hp ([c0, c1, c2, c3].take n))) % 16384)) from by rw [eqc]) ?_
    refine Wp.run ok_law 2 221 #[.val (.int i0), .val (.int i1), .val (.int i2), .val (.int i3), .val (.int i4), .val (.int (Int32.ofNat n)), .val (.int c0), .val (.int c1), .val (.int c2), .val (.int c3), .val (.ref h.size), .val (.ref key), .val (.int op), .val (.int cl), .val (.int (Int32.ofNat s)), .val (.int (Int32.ofNat e)), .val (.int (Int32.ofNat (atF s e 3 (atF s e 2 (atF s e 1 (atF s e 0 0 c0) c1) c2) c3))), .val (.int (Int32.ofNat (crcS 0 (utf8 (hp ([c0, c1, c2, c3].take n))) % 16384))), .val (.int (Int32.ofNat (crcB 0 (utf8 (hp ([c0, c1, c2, c3].take n))) % 65536 % 16384)))] [(.int (1 : Int32))] rfl ?_
    exact Wp.retI ok_law (t := .boolean) rfl (by decide) rfl rfl rfl rfl
  refine Wp.at #[.val (.int i0), .val (.int i1), .val (.int i2), .val (.int i3), .val (.int i4), .val (.int (Int32.ofNat n)), .val (.int c0), .val (.int c1), .val (.int c2), .val (.int c3), .val (.ref h.size), .val (.ref key), .unset, .unset, .unset, .unset, .unset, .unset, .unset] [(.int (Int32.ofNat 0)), (.int (123 : Int32)), (.int (Int32.ofNat n)), (.ref h.size)] ⟨rfl, rfl⟩ ?_
  refine Wp.callS ok_law (argsL := [(.ref h.size), (.int (Int32.ofNat n)), (.int (123 : Int32)), (.int (Int32.ofNat 0))]) (rest := []) (ct_fnd G (c := 123) (n := n) (f := 0) (by omega) (by omega) h1 A5) G.2.1 (G.1 _ (List.mem_of_getElem? (i := 30) rfl)) (G.1 _ (List.mem_of_getElem? (i := 31) rfl)) (G.1 _ (List.mem_of_getElem? (i := 3) rfl)) (G.1 _ (List.mem_of_getElem? (i := 32) rfl)) rfl rfl (by decide) pd_fnd rfl rfl (Nat.le_of_ble_eq_true rfl) (Nat.le_of_ble_eq_true rfl) (Nat.le_of_ble_eq_true rfl) (Nat.le_of_ble_eq_true rfl) all0 ?_
  rintro _ _ ⟨rfl, rfl⟩ -
  rcases hT : tg ([c0, c1, c2, c3].take n) with _ | ⟨o, c⟩
  · rcases tg_none hT with h0 | ⟨o, h0, ho, hr⟩
    · refine Wp.at #[.val (.int i0), .val (.int i1), .val (.int i2), .val (.int i3), .val (.int i4), .val (.int (Int32.ofNat n)), .val (.int c0), .val (.int c1), .val (.int c2), .val (.int c3), .val (.ref h.size), .val (.ref key), .unset, .unset, .unset, .unset, .unset, .unset, .unset] [(.int (-1))] ⟨rfl, (by rw [List.drop_zero, ixF_none h0] <;> rfl)⟩ ?_
      refine Wp.run ok_law 2 87 #[.val (.int i0), .val (.int i1), .val (.int i2), .val (.int i3), .val (.int i4), .val (.int (Int32.ofNat n)), .val (.int c0), .val (.int c1), .val (.int c2), .val (.int c3), .val (.ref h.size), .val (.ref key), .val (.int (-1)), .unset, .unset, .unset, .unset, .unset, .unset] [(.int (-1))] rfl ?_
      refine Wp.ifF ok_law rfl rfl (show (-1) < (0 : Int32) from by decide) ?_
      refine Wp.run ok_law 11 122 #[.val (.int i0), .val (.int i1), .val (.int i2), .val (.int i3), .val (.int i4), .val (.int (Int32.ofNat n)), .val (.int c0), .val (.int c1), .val (.int c2), .val (.int c3), .val (.ref h.size), .val (.ref key), .val (.int (-1)), .val (.int (-1 : Int32)), .val (.int (0 : Int32)), .val (.int (Int32.ofNat n)), .unset, .unset, .unset] [(.int ((-1) + (1 : Int32))), (.int (-1 : Int32))] rfl ?_
      refine Wp.icmpT ok_law 135 rfl rfl (show ¬ ((-1) + (1 : Int32)) < (-1 : Int32) from by decide) (by decide) (by decide) ?_
      refine Wp.at #[.val (.int i0), .val (.int i1), .val (.int i2), .val (.int i3), .val (.int i4), .val (.int (Int32.ofNat n)), .val (.int c0), .val (.int c1), .val (.int c2), .val (.int c3), .val (.ref h.size), .val (.ref key), .val (.int (-1)), .val (.int (-1 : Int32)), .val (.int (Int32.ofNat 0)), .val (.int (Int32.ofNat n)), .unset, .unset, .unset] [] ⟨rfl, rfl⟩ ?_
      exact r135 _ _ 0 n (by omega) (by omega) ((hp_none hT).trans (by rw [List.drop_zero]))
    · rw [hkl] at ho
      refine Wp.at #[.val (.int i0), .val (.int i1), .val (.int i2), .val (.int i3), .val (.int i4), .val (.int (Int32.ofNat n)), .val (.int c0), .val (.int c1), .val (.int c2), .val (.int c3), .val (.ref h.size), .val (.ref key), .unset, .unset, .unset, .unset, .unset, .unset, .unset] [(.int (Int32.ofNat o))] ⟨rfl, (by rw [List.drop_zero, ixF_some h0] <;> rfl)⟩ ?_
      refine Wp.run ok_law 2 87 #[.val (.int i0), .val (.int i1), .val (.int i2), .val (.int i3), .val (.int i4), .val (.int (Int32.ofNat n)), .val (.int c0), .val (.int c1), .val (.int c2), .val (.int c3), .val (.ref h.size), .val (.ref key), .val (.int (Int32.ofNat o)), .unset, .unset, .unset, .unset, .unset, .unset] [(.int (Int32.ofNat o))] rfl ?_
      refine Wp.ifT ok_law 94 rfl rfl (show ¬ (Int32.ofNat o) < (0 : Int32) from Int32.ofNat_not_neg (by omega)) (by decide) (by decide) ?_
      refine Wp.run ok_law 6 104 #[.val (.int i0), .val (.int i1), .val (.int i2), .val (.int i3), .val (.int i4), .val (.int (Int32.ofNat n)), .val (.int c0), .val (.int c1), .val (.int c2), .val (.int c3), .val (.ref h.size), .val (.ref key), .val (.int (Int32.ofNat o)), .unset, .unset, .unset, .unset, .unset, .unset] [(.int ((Int32.ofNat o) + (1 : Int32))), (.int (125 : Int32)), (.int (Int32.ofNat n)), (.ref h.size)] rfl ?_
      refine Wp.at #[.val (.int i0), .val (.int i1), .val (.int i2), .val (.int i3), .val (.int i4), .val (.int (Int32.ofNat n)), .val (.int c0), .val (.int c1), .val (.int c2), .val (.int c3), .val (.ref h.size), .val (.ref key), .val (.int (Int32.ofNat o)), .unset, .unset, .unset, .unset, .unset, .unset] [(.int (Int32.ofNat (o + 1))), (.int (125 : Int32)), (.int (Int32.ofNat n)), (.ref h.size)] ⟨rfl, (by rw [n_succ] <;> rfl)⟩ ?_
      refine Wp.callS ok_law (argsL := [(.ref h.size), (.int (Int32.ofNat n)), (.int (125 : Int32)), (.int (Int32.ofNat (o + 1)))]) (rest := []) (ct_fnd G (c := 125) (n := n) (f := o + 1) (by omega) (by omega) h1 A5) G.2.1 (G.1 _ (List.mem_of_getElem? (i := 30) rfl)) (G.1 _ (List.mem_of_getElem? (i := 31) rfl)) (G.1 _ (List.mem_of_getElem? (i := 3) rfl)) (G.1 _ (List.mem_of_getElem? (i := 32) rfl)) rfl rfl (by decide) pd_fnd rfl rfl (Nat.le_of_ble_eq_true rfl) (Nat.le_of_ble_eq_true rfl) (Nat.le_of_ble_eq_true rfl) (Nat.le_of_ble_eq_true rfl) all0 ?_
      rintro _ _ ⟨rfl, rfl⟩ -
      rcases hr with hr | hr
      · refine Wp.at #[.val (.int i0), .val (.int i1), .val (.int i2), .val (.int i3), .val (.int i4), .val (.int (Int32.ofNat n)), .val (.int c0), .val (.int c1), .val (.int c2), .val (.int c3), .val (.ref h.size), .val (.ref key), .val (.int (Int32.ofNat o)), .unset, .unset, .unset, .unset, .unset, .unset] [(.int (-1))] ⟨rfl, (by rw [ixF_none hr] <;> rfl)⟩ ?_
        refine Wp.run ok_law 9 122 #[.val (.int i0), .val (.int i1), .val (.int i2), .val (.int i3), .val (.int i4), .val (.int (Int32.ofNat n)), .val (.int c0), .val (.int c1), .val (.int c2), .val (.int c3), .val (.ref h.size), .val (.ref key), .val (.int (Int32.ofNat o)), .val (.int (-1)), .val (.int (0 : Int32)), .val (.int (Int32.ofNat n)), .unset, .unset, .unset] [(.int ((Int32.ofNat o) + (1 : Int32))), (.int (-1))] rfl ?_
        refine Wp.at #[.val (.int i0), .val (.int i1), .val (.int i2), .val (.int i3), .val (.int i4), .val (.int (Int32.ofNat n)), .val (.int c0), .val (.int c1), .val (.int c2), .val (.int c3), .val (.ref h.size), .val (.ref key), .val (.int (Int32.ofNat o)), .val (.int (-1)), .val (.int (0 : Int32)), .val (.int (Int32.ofNat n)), .unset, .unset, .unset] [(.int (Int32.ofNat (o + 1))), (.int (-1))] ⟨rfl, (by rw [n_succ] <;> rfl)⟩ ?_
        refine Wp.icmpT ok_law 135 rfl rfl (show ¬ (Int32.ofNat (o + 1)) < (-1) from fun z => absurd z (by rw [Int32.lt_iff_toInt_lt, n_int (by omega), show (-1 : Int32).toInt = -1 from by decide]; omega)) (by decide) (by decide) ?_
        refine Wp.at #[.val (.int i0), .val (.int i1), .val (.int i2), .val (.int i3), .val (.int i4), .val (.int (Int32.ofNat n)), .val (.int c0), .val (.int c1), .val (.int c2), .val (.int c3), .val (.ref h.size), .val (.ref key), .val (.int (Int32.ofNat o)), .val (.int (-1)), .val (.int (Int32.ofNat 0)), .val (.int (Int32.ofNat n)), .unset, .unset, .unset] [] ⟨rfl, rfl⟩ ?_
        exact r135 _ _ 0 n (by omega) (by omega) ((hp_none hT).trans (by rw [List.drop_zero]))
      · refine Wp.at #[.val (.int i0), .val (.int i1), .val (.int i2), .val (.int i3), .val (.int i4), .val (.int (Int32.ofNat n)), .val (.int c0), .val (.int c1), .val (.int c2), .val (.int c3), .val (.ref h.size), .val (.ref key), .val (.int (Int32.ofNat o)), .unset, .unset, .unset, .unset, .unset, .unset] [(.int (Int32.ofNat (o + 1)))] ⟨rfl, (by rw [ixF_some hr] <;> rfl)⟩ ?_
        refine Wp.run ok_law 9 122 #[.val (.int i0), .val (.int i1), .val (.int i2), .val (.int i3), .val (.int i4), .val (.int (Int32.ofNat n)), .val (.int c0), .val (.int c1), .val (.int c2), .val (.int c3), .val (.ref h.size), .val (.ref key), .val (.int (Int32.ofNat o)), .val (.int (Int32.ofNat (o + 1))), .val (.int (0 : Int32)), .val (.int (Int32.ofNat n)), .unset, .unset, .unset] [(.int ((Int32.ofNat o) + (1 : Int32))), (.int (Int32.ofNat (o + 1)))] rfl ?_
        refine Wp.at #[.val (.int i0), .val (.int i1), .val (.int i2), .val (.int i3), .val (.int i4), .val (.int (Int32.ofNat n)), .val (.int c0), .val (.int c1), .val (.int c2), .val (.int c3), .val (.ref h.size), .val (.ref key), .val (.int (Int32.ofNat o)), .val (.int (Int32.ofNat (o + 1))), .val (.int (0 : Int32)), .val (.int (Int32.ofNat n)), .unset, .unset, .unset] [(.int (Int32.ofNat (o + 1))), (.int (Int32.ofNat (o + 1)))] ⟨rfl, (by rw [n_succ] <;> rfl)⟩ ?_
        refine Wp.icmpT ok_law 135 rfl rfl (show ¬ (Int32.ofNat (o + 1)) < (Int32.ofNat (o + 1)) from Int32.lt_irrefl) (by decide) (by decide) ?_
        refine Wp.at #[.val (.int i0), .val (.int i1), .val (.int i2), .val (.int i3), .val (.int i4), .val (.int (Int32.ofNat n)), .val (.int c0), .val (.int c1), .val (.int c2), .val (.int c3), .val (.ref h.size), .val (.ref key), .val (.int (Int32.ofNat o)), .val (.int (Int32.ofNat (o + 1))), .val (.int (Int32.ofNat 0)), .val (.int (Int32.ofNat n)), .unset, .unset, .unset] [] ⟨rfl, rfl⟩ ?_
        exact r135 _ _ 0 n (by omega) (by omega) ((hp_none hT).trans (by rw [List.drop_zero]))
  · obtain ⟨h0, h1c, hoc, hcl, hol, -⟩ := tg_inv hT
    rw [hkl] at hcl hol
    refine Wp.at #[.val (.int i0), .val (.int i1), .val (.int i2), .val (.int i3), .val (.int i4), .val (.int (Int32.ofNat n)), .val (.int c0), .val (.int c1), .val (.int c2), .val (.int c3), .val (.ref h.size), .val (.ref key), .unset, .unset, .unset, .unset, .unset, .unset, .unset] [(.int (Int32.ofNat o))] ⟨rfl, (by rw [List.drop_zero, ixF_some h0] <;> rfl)⟩ ?_
    refine Wp.run ok_law 2 87 #[.val (.int i0), .val (.int i1), .val (.int i2), .val (.int i3), .val (.int i4), .val (.int (Int32.ofNat n)), .val (.int c0), .val (.int c1), .val (.int c2), .val (.int c3), .val (.ref h.size), .val (.ref key), .val (.int (Int32.ofNat o)), .unset, .unset, .unset, .unset, .unset, .unset] [(.int (Int32.ofNat o))] rfl ?_
    refine Wp.ifT ok_law 94 rfl rfl (show ¬ (Int32.ofNat o) < (0 : Int32) from Int32.ofNat_not_neg (by omega)) (by decide) (by decide) ?_
    refine Wp.run ok_law 6 104 #[.val (.int i0), .val (.int i1), .val (.int i2), .val (.int i3), .val (.int i4), .val (.int (Int32.ofNat n)), .val (.int c0), .val (.int c1), .val (.int c2), .val (.int c3), .val (.ref h.size), .val (.ref key), .val (.int (Int32.ofNat o)), .unset, .unset, .unset, .unset, .unset, .unset] [(.int ((Int32.ofNat o) + (1 : Int32))), (.int (125 : Int32)), (.int (Int32.ofNat n)), (.ref h.size)] rfl ?_
    refine Wp.at #[.val (.int i0), .val (.int i1), .val (.int i2), .val (.int i3), .val (.int i4), .val (.int (Int32.ofNat n)), .val (.int c0), .val (.int c1), .val (.int c2), .val (.int c3), .val (.ref h.size), .val (.ref key), .val (.int (Int32.ofNat o)), .unset, .unset, .unset, .unset, .unset, .unset] [(.int (Int32.ofNat (o + 1))), (.int (125 : Int32)), (.int (Int32.ofNat n)), (.ref h.size)] ⟨rfl, (by rw [n_succ] <;> rfl)⟩ ?_
    refine Wp.callS ok_law (argsL := [(.ref h.size), (.int (Int32.ofNat n)), (.int (125 : Int32)), (.int (Int32.ofNat (o + 1)))]) (rest := []) (ct_fnd G (c := 125) (n := n) (f := o + 1) (by omega) (by omega) h1 A5) G.2.1 (G.1 _ (List.mem_of_getElem? (i := 30) rfl)) (G.1 _ (List.mem_of_getElem? (i := 31) rfl)) (G.1 _ (List.mem_of_getElem? (i := 3) rfl)) (G.1 _ (List.mem_of_getElem? (i := 32) rfl)) rfl rfl (by decide) pd_fnd rfl rfl (Nat.le_of_ble_eq_true rfl) (Nat.le_of_ble_eq_true rfl) (Nat.le_of_ble_eq_true rfl) (Nat.le_of_ble_eq_true rfl) all0 ?_
    rintro _ _ ⟨rfl, rfl⟩ -
    refine Wp.at #[.val (.int i0), .val (.int i1), .val (.int i2), .val (.int i3), .val (.int i4), .val (.int (Int32.ofNat n)), .val (.int c0), .val (.int c1), .val (.int c2), .val (.int c3), .val (.ref h.size), .val (.ref key), .val (.int (Int32.ofNat o)), .unset, .unset, .unset, .unset, .unset, .unset] [(.int (Int32.ofNat c))] ⟨rfl, (by rw [ixF_some h1c] <;> rfl)⟩ ?_
    refine Wp.run ok_law 9 122 #[.val (.int i0), .val (.int i1), .val (.int i2), .val (.int i3), .val (.int i4), .val (.int (Int32.ofNat n)), .val (.int c0), .val (.int c1), .val (.int c2), .val (.int c3), .val (.ref h.size), .val (.ref key), .val (.int (Int32.ofNat o)), .val (.int (Int32.ofNat c)), .val (.int (0 : Int32)), .val (.int (Int32.ofNat n)), .unset, .unset, .unset] [(.int ((Int32.ofNat o) + (1 : Int32))), (.int (Int32.ofNat c))] rfl ?_
    refine Wp.at #[.val (.int i0), .val (.int i1), .val (.int i2), .val (.int i3), .val (.int i4), .val (.int (Int32.ofNat n)), .val (.int c0), .val (.int c1), .val (.int c2), .val (.int c3), .val (.ref h.size), .val (.ref key), .val (.int (Int32.ofNat o)), .val (.int (Int32.ofNat c)), .val (.int (0 : Int32)), .val (.int (Int32.ofNat n)), .unset, .unset, .unset] [(.int (Int32.ofNat (o + 1))), (.int (Int32.ofNat c))] ⟨rfl, (by rw [n_succ] <;> rfl)⟩ ?_
    refine Wp.icmpF ok_law rfl rfl (show (Int32.ofNat (o + 1)) < (Int32.ofNat c) from (n_lt (by omega) (by omega)).mpr hoc) ?_
    refine Wp.run ok_law 6 135 #[.val (.int i0), .val (.int i1), .val (.int i2), .val (.int i3), .val (.int i4), .val (.int (Int32.ofNat n)), .val (.int c0), .val (.int c1), .val (.int c2), .val (.int c3), .val (.ref h.size), .val (.ref key), .val (.int (Int32.ofNat o)), .val (.int (Int32.ofNat c)), .val (.int ((Int32.ofNat o) + (1 : Int32))), .val (.int (Int32.ofNat c)), .unset, .unset, .unset] [] rfl ?_
    refine Wp.at #[.val (.int i0), .val (.int i1), .val (.int i2), .val (.int i3), .val (.int i4), .val (.int (Int32.ofNat n)), .val (.int c0), .val (.int c1), .val (.int c2), .val (.int c3), .val (.ref h.size), .val (.ref key), .val (.int (Int32.ofNat o)), .val (.int (Int32.ofNat c)), .val (.int (Int32.ofNat (o + 1))), .val (.int (Int32.ofNat c)), .unset, .unset, .unset] [] ⟨(by rw [n_succ] <;> rfl), rfl⟩ ?_
    exact r135 _ _ (o + 1) c (by omega) (by omega) (hp_some (by simp; omega) hT)

set_option maxRecDepth 65536 in
set_option maxHeartbeats 4000000 in
theorem comes_1 {Post : Tables → Env → Array Value → State → Outcome → State → Prop} (hpost : ∀ tb e args s v u, (limb_1_1.after args s (.returned v) u = true ∧ limb_1_2.after args s (.returned v) u = true ∧ True) → ReturnedEndW s (.returned v) u (Jvm.fieldLocs frame_1_writes args s ++ Jvm.arrayLocs frame_1_arrays args s ++ Jvm.staticLocs frame_1_statics s) 32 1216 → Post tb e args s (.returned v) u) :
    ArmFor flags0 classFile x code maxLocals ret World_1 tables_1 room_1 Calls_1 rest_1 Pre_1 Post := by
  intro l hfl _ _ p e ha hc hk s m args below hf hA hF happ hP
  obtain ⟨hcalls, hrest, hpre⟩ := hP
  obtain ⟨-, -, -, hnamed, -, -, -, hat⟩ := (Spec.applies_iff hf).mp happ
  obtain ⟨hg, hn⟩ := and_e (Cond.before_iff.mp (show (Jvm.Cond.and given_1 narrow_1).before args s = true from hpre))
  obtain ⟨hcount, g0⟩ := and_e hg
  obtain ⟨k0, g1⟩ := and_e g0
  obtain ⟨k1, g2⟩ := and_e g1
  obtain ⟨k2, g3⟩ := and_e g2
  obtain ⟨k3, g4⟩ := and_e g3
  have k4 := g4
  obtain ⟨w0, w1, w2, w3, w4, rfl⟩ : ∃ w0 w1 w2 w3 w4 : Value, args = #[w0, w1, w2, w3, w4] := by
    have hs : args.size = 5 := by simpa [Cond.value, given_1] using hcount
    obtain ⟨L⟩ := args
    match L, hs with
    | [w0, w1, w2, w3, w4], _ => exact ⟨w0, w1, w2, w3, w4, rfl⟩
  have hw := fun d (hd : d ∈ tables_1) => atoms_spec (ws := Jvm.Cond.code x code maxLocals ret :: tables_1) hat d (List.mem_cons_of_mem _ hd)
  obtain ⟨hsets, hown0⟩ := atoms_of _ (rest_1_c_eq ▸ (show rest_1_c.before _ s = true from hrest))
  have hfit : Fit s := fun {y c} hc i hi => by
    obtain ⟨ha, rfl⟩ := Array.getElem?_eq_some_iff.mp hc
    have q := List.all_eq_true.mp ((Array.all_eq_true_iff_forall_mem.mp hF) _ (Array.getElem_mem ha)) i (List.mem_range.mpr hi)
    simpa [Array.getElem?_eq_getElem hi] using q
  obtain ⟨i0, e0⟩ := is_v k0
  obtain rfl : w0 = (.int i0) := Option.some.inj e0
  obtain ⟨i1, e1⟩ := is_v k1
  obtain rfl : w1 = (.int i1) := Option.some.inj e1
  obtain ⟨i2, e2⟩ := is_v k2
  obtain rfl : w2 = (.int i2) := Option.some.inj e2
  obtain ⟨i3, e3⟩ := is_v k3
  obtain rfl : w3 = (.int i3) := Option.some.inj e3
  obtain ⟨i4, e4⟩ := is_v k4
  obtain rfl : w4 = (.int i4) := Option.some.inj e4
  have n5 := not_v (Cond.before_iff.mp (hsets _ (List.mem_of_getElem? (i := 2) rfl)))
  obtain ⟨vC, eC⟩ := is_v (Cond.before_iff.mp (hsets _ (List.mem_of_getElem? (i := 1) rfl)))
  have SC : Sta s s.heap "java/lang/String" "COMPACT_STRINGS" "Z" (.int vC) := Sta.start eC (Or.inl (hsets _ (List.mem_of_getElem? (i := 0) rfl)))
  obtain ⟨vF, eF, rF⟩ := isR_v (Cond.before_iff.mp (hsets _ (List.mem_of_getElem? (i := 8) rfl)))
  have SF : Sta s s.heap "jdk/internal/util/Preconditions" "SIOOBE_FORMATTER" "Ljava/util/function/BiFunction;" vF := Sta.start eF (Or.inl (hsets _ (List.mem_of_getElem? (i := 7) rfl)))
  have nC : ¬ (vC = (0 : Int32)) := gotF (Cond.eq_ints eC (Term.int_eval (0))) n5
  have hEL : EW s #[.int i0, .int i1, .int i2, .int i3, .int i4] EL1 := (EW.cons (hw _ (List.mem_of_getElem? (i := 22) rfl)) (by decide) EW.nil)
  have SA : Sta s s.heap "java/lang/StringUTF16" "$assertionsDisabled" "Z" (.int 1) := Sta.start (Cond.eq_int (hsets _ (List.mem_of_getElem? (i := 21) rfl)) rfl) (Or.inl (hsets _ (List.mem_of_getElem? (i := 20) rfl)))
  have SH : Sta s s.heap "java/lang/StringUTF16" "HI_BYTE_SHIFT" "I" (.int 0) := Sta.start (Cond.eq_int (hsets _ (List.mem_of_getElem? (i := 24) rfl)) rfl) (Or.inl (hsets _ (List.mem_of_getElem? (i := 23) rfl)))
  have SL : Sta s s.heap "java/lang/StringUTF16" "LO_BYTE_SHIFT" "I" (.int 8) := Sta.start (Cond.eq_int (hsets _ (List.mem_of_getElem? (i := 27) rfl)) rfl) (Or.inl (hsets _ (List.mem_of_getElem? (i := 26) rfl)))
  obtain ⟨ua, cI, cellI, kI, evI, -⟩ := Cond.exactly_spec (hsets _ (List.mem_of_getElem? (i := 17) rfl))
  obtain ⟨ub, cJ, cellJ, kJ, evJ, -⟩ := Cond.exactly_spec (hsets _ (List.mem_of_getElem? (i := 14) rfl))
  have euv : ub = ua := by
    have z := Cond.before_iff.mp (hsets _ (List.mem_of_getElem? (i := 13) rfl))
    simpa [Jvm.Cond.value, evI, evJ] using z
  have SI : Sta s s.heap "sun/nio/cs/UTF_8" "INSTANCE" "Lsun/nio/cs/UTF_8;" (.ref ua) := Sta.start evI (Or.inl (hsets _ (List.mem_of_getElem? (i := 12) rfl)))
  have SJ : Sta s s.heap "java/nio/charset/StandardCharsets" "UTF_8" "Ljava/nio/charset/Charset;" (.ref ua) := euv ▸ Sta.start evJ (Or.inl (hsets _ (List.mem_of_getElem? (i := 10) rfl)))
  have G : Gd s #[.int i0, .int i1, .int i2, .int i3, .int i4] := ⟨hw, hEL, ⟨vC, SC, nC⟩, ⟨vF, SF, rF⟩, ⟨SA, SH, SL⟩, ua, SJ, SI⟩
  have hCH : CHv s EL1 s.vm s.heap := CHv.start hEL hcalls.1 (hsets _ (List.mem_of_getElem? (i := 2) rfl)) (hw _ (List.mem_of_getElem? (i := 23) rfl)) (hw _ (List.mem_of_getElem? (i := 10) rfl))
  obtain ⟨n, o, h1, h2, h3, _, L, Wo, rfl, rfl, -, N, -, -, hWH, hq⟩ := ct_law G i0 i1 i2 i3 i4 s.heap p e ha hc hk s m _ below hf ((Spec.applies_iff_loose hf).mp happ).1 ⟨rfl, State.Warmed39.refl s, rfl, hCH, Own.nil, ext_refl _⟩ trivial
  refine ⟨n, _, h1, h2, h3, hpost _ _ _ _ _ _ ⟨Cond.after_iff.mpr rfl, Cond.after_iff.mpr (eq_i res_at (Term.int_eval (1)) rfl), trivial⟩ ⟨hq.1, hq.2.1, hq.2.2.1, (hq.2.2.2.sift fun y hy => Or.inr (N y hy)).mono (by decide) (by decide)⟩⟩
theorem main_1_1 : Claimed_1_1 := comes_1 fun _ _ _ _ _ _ h hF => ⟨h.1, hF⟩
theorem main_1_2 : Claimed_1_2 := comes_1 fun _ _ _ _ _ _ h hF => ⟨h.2.1, hF⟩
end Jvm.Pilot.@@N@@
namespace Jvm.Pilot.@@N@@
open Jvm Jvm.ClassFile Sem Op Lib Jvm.Free Jvm.Stand Jvm.Pilot.@@N@@.Jvm.D
/-! MADE BY PROGRAM (witnessworld.py) out of the Statement's table words and the real class files: 29 classes; the members and pool entries that the words name. The judged class is class 1, her method 1. -/
namespace start1
open Jvm.ClassFile
def u (s : String) : CpInfo := .utf8 (stringToUtf16 s)
/-- a pool by its gaps: so many unusable entries, then the entry; so many at the end -/
def gap : Nat → List CpInfo → List CpInfo
  | 0, r => r
  | n + 1, r => .unusable :: gap n r
def poolList (es : List (Nat × CpInfo)) (last : Nat) : List CpInfo := es.foldr (fun e r => gap e.1 (e.2 :: r)) (gap last [])
def pool (es : List (Nat × CpInfo)) (last : Nat) : Array CpInfo := ⟨poolList es last⟩
def fileOf (pool : Array CpInfo) (this : Nat) (attrs : Array Attribute := #[]) (ms : Array MethodInfo := #[]) (fl : Nat := 33) (sup : Nat := 0) (ifs : Array Nat := #[]) (fds : Array FieldInfo := #[]) : ClassFile where
  minorVersion := 0
  majorVersion := 65
  constantPool := pool
  accessFlags := fl
  thisClass := this
  superClass := sup
  interfaces := ifs
  fields := fds
  methods := ms
  attributes := attrs
def plain (name : String) (sup : Option ClassId) : Class where
  name := name
  kind := .ordinary
  loader := none
  accessFlags := 33
  super := sup
  interfaces := #[]
  cf := none
  fields := #[]
  methods := #[]
  instanceTypes := #[]
  staticTypes := #[]
  resolved := #[]
  callSites := []
  init := .initialized
  statics := none
  mirror := none

def pool0 : Array CpInfo := pool [(5, u "<init>"), (0, u "()V"), (1, .class_ 10), (1, u "java/lang/Object"), (85, u "clone"), (0, u "()Ljava/lang/Object;")] 26

def k0c0 : Code := { maxStack := 0, maxLocals := 1, code := object_method_1_code, exceptionTable := #[], attributes := #[] }
def k0m0 : Method := { name := "<init>", desc := "()V", sig := { parameters := [], returnType := none }, accessFlags := 1, code := some k0c0 }
def k0m1 : Method := { name := "clone", desc := "()Ljava/lang/Object;", sig := { parameters := [], returnType := some (.object "java/lang/Object") }, accessFlags := 260, code := none }
/-- java/lang/Object -/
def k0 : Class := { plain "java/lang/Object" none with
  accessFlags := 33
  interfaces := #[]
  cf := some (fileOf pool0 8 #[] #[{ accessFlags := 1, nameIndex := 5, descriptorIndex := 6, attributes := #[] }, { accessFlags := 260, nameIndex := 96, descriptorIndex := 97, attributes := #[] }] 33 0 #[] #[])
  fields := #[]
  methods := #[k0m0, k0m1]
  instanceTypes := #[]
  staticTypes := #[]
  resolved := Array.replicate 124 none
  statics := none }

def pool1 : Array CpInfo := pool [(2, .class_ 4), (1, u "java/lang/Object"), (0, u "<init>"), (0, u "()V"), (0, .integer 2147483647), (0, .methodref 9 10), (0, .class_ 11), (0, .nameAndType 12 13), (0, u "holdfast/HashSlotOfPinLaw"), (0, u "draw"), (0, u "(I)C"), (0, .methodref 9 15), (0, .nameAndType 16 17), (0, u "make"), (0, u "(ICCCC)Ljava/lang/String;"), (0, .methodref 9 19), (0, .nameAndType 20 21), (0, u "find"), (0, u "([CICI)I"), (0, .methodref 9 23), (0, .nameAndType 24 25), (0, u "at"), (0, u "(I[CIII)I"), (0, .methodref 27 28), (0, .class_ 29), (0, .nameAndType 30 31), (0, u "holdfast/HashSlot"), (0, u "of"), (0, u "(Ljava/lang/String;)I"), (0, .class_ 33), (0, u "java/lang/String"), (0, .methodref 32 35), (0, .nameAndType 5 36), (0, u "([C)V"), (0, .methodref 32 38), (0, .nameAndType 39 40), (0, u "valueOf"), (0, u "(C)Ljava/lang/String;"), (0, .methodref 9 42), (0, .nameAndType 43 44), (0, u "feedChar"), (0, u "(IC)I"), (0, .methodref 9 46), (0, .nameAndType 47 48), (0, u "step"), (0, u "(II)I"), (0, .integer 65535), (2, u "law"), (0, u "(IIIII)Z")] 5

def k1m0 : Method := { name := "<init>", desc := "()V", sig := { parameters := [], returnType := none }, accessFlags := 2, code := none }
def k1c1 : Code := { maxStack := 5, maxLocals := 19, code := code, exceptionTable := #[], attributes := #[] }
def k1m1 : Method := { name := "law", desc := "(IIIII)Z", sig := { parameters := [.int, .int, .int, .int, .int], returnType := some .boolean }, accessFlags := 9, code := some k1c1 }
def k1c2 : Code := { maxStack := 2, maxLocals := 2, code := method_3_code, exceptionTable := #[], attributes := #[] }
def k1m2 : Method := { name := "draw", desc := "(I)C", sig := { parameters := [.int], returnType := some .char }, accessFlags := 10, code := some k1c2 }
def k1c3 : Code := { maxStack := 6, maxLocals := 5, code := method_4_code, exceptionTable := #[], attributes := #[] }
def k1m3 : Method := { name := "make", desc := "(ICCCC)Ljava/lang/String;", sig := { parameters := [.int, .char, .char, .char, .char], returnType := some (.object "java/lang/String") }, accessFlags := 10, code := some k1c3 }
def k1c4 : Code := { maxStack := 2, maxLocals := 4, code := method_5_code, exceptionTable := #[], attributes := #[] }
def k1m4 : Method := { name := "find", desc := "([CICI)I", sig := { parameters := [(.array .char), .int, .char, .int], returnType := some .int }, accessFlags := 10, code := some k1c4 }
def k1c5 : Code := { maxStack := 3, maxLocals := 5, code := method_6_code, exceptionTable := #[], attributes := #[] }
def k1m5 : Method := { name := "at", desc := "(I[CIII)I", sig := { parameters := [.int, (.array .char), .int, .int, .int], returnType := some .int }, accessFlags := 10, code := some k1c5 }
def k1c6 : Code := { maxStack := 3, maxLocals := 4, code := method_7_code, exceptionTable := #[], attributes := #[] }
def k1m6 : Method := { name := "feedChar", desc := "(IC)I", sig := { parameters := [.int, .char], returnType := some .int }, accessFlags := 10, code := some k1c6 }
def k1c7 : Code := { maxStack := 3, maxLocals := 3, code := method_8_code, exceptionTable := #[], attributes := #[] }
def k1m7 : Method := { name := "step", desc := "(II)I", sig := { parameters := [.int, .int], returnType := some .int }, accessFlags := 10, code := some k1c7 }
/-- holdfast/HashSlotOfPinLaw -/
def k1 : Class := { plain "holdfast/HashSlotOfPinLaw" (some 0) with
  accessFlags := 49
  interfaces := #[]
  cf := some (fileOf pool1 9 #[] #[{ accessFlags := 2, nameIndex := 5, descriptorIndex := 6, attributes := #[] }, { accessFlags := 9, nameIndex := 52, descriptorIndex := 53, attributes := #[] }, { accessFlags := 10, nameIndex := 12, descriptorIndex := 13, attributes := #[] }, { accessFlags := 10, nameIndex := 16, descriptorIndex := 17, attributes := #[] }, { accessFlags := 10, nameIndex := 20, descriptorIndex := 21, attributes := #[] }, { accessFlags := 10, nameIndex := 24, descriptorIndex := 25, attributes := #[] }, { accessFlags := 10, nameIndex := 43, descriptorIndex := 44, attributes := #[] }, { accessFlags := 10, nameIndex := 47, descriptorIndex := 48, attributes := #[] }] 49 2 #[] #[])
  fields := #[]
  methods := #[k1m0, k1m1, k1m2, k1m3, k1m4, k1m5, k1m6, k1m7]
  instanceTypes := #[]
  staticTypes := #[]
  resolved := Array.replicate 59 none
  statics := none }

def pool2 : Array CpInfo := pool [(1, .class_ 2), (0, u "java/io/Serializable"), (0, .class_ 4), (0, u "java/lang/Object")] 2

/-- java/io/Serializable -/
def k2 : Class := { plain "java/io/Serializable" (some 0) with
  accessFlags := 1537
  interfaces := #[]
  cf := some (fileOf pool2 1 #[] #[] 1537 3 #[] #[])
  fields := #[]
  methods := #[]
  instanceTypes := #[]
  staticTypes := #[]
  resolved := Array.replicate 7 none
  statics := none }

def pool3 : Array CpInfo := pool [(1, .class_ 2), (0, u "java/lang/Comparable"), (0, .class_ 4), (0, u "java/lang/Object")] 7

/-- java/lang/Comparable -/
def k3 : Class := { plain "java/lang/Comparable" (some 0) with
  accessFlags := 1537
  interfaces := #[]
  cf := some (fileOf pool3 1 #[] #[] 1537 3 #[] #[])
  fields := #[]
  methods := #[]
  instanceTypes := #[]
  staticTypes := #[]
  resolved := Array.replicate 12 none
  statics := none }

def pool4 : Array CpInfo := pool [(2, .class_ 4), (1, u "java/lang/CharSequence"), (42, .class_ 48), (0, u "java/lang/CharSequence$1CodePointIterator"), (10, .class_ 60), (0, u "java/lang/CharSequence$1CharIterator"), (5, .class_ 67), (0, u "java/lang/Object")] 63

/-- java/lang/CharSequence -/
def k4 : Class := { plain "java/lang/CharSequence" (some 0) with
  accessFlags := 1537
  interfaces := #[]
  cf := some (fileOf pool4 2 #[.nestMembers #[47, 59]] #[] 1537 66 #[] #[])
  fields := #[]
  methods := #[]
  instanceTypes := #[]
  staticTypes := #[]
  resolved := Array.replicate 131 none
  statics := none }

def pool5 : Array CpInfo := pool [(1, .class_ 2), (0, u "java/lang/constant/Constable"), (0, .class_ 4), (0, u "java/lang/Object")] 6

/-- java/lang/constant/Constable -/
def k5 : Class := { plain "java/lang/constant/Constable" (some 0) with
  accessFlags := 1537
  interfaces := #[]
  cf := some (fileOf pool5 1 #[] #[] 1537 3 #[] #[])
  fields := #[]
  methods := #[]
  instanceTypes := #[]
  staticTypes := #[]
  resolved := Array.replicate 11 none
  statics := none }

def pool6 : Array CpInfo := pool [(1, .class_ 2), (0, u "java/lang/constant/ConstantDesc"), (0, .class_ 4), (0, u "java/lang/Object")] 32

/-- java/lang/constant/ConstantDesc -/
def k6 : Class := { plain "java/lang/constant/ConstantDesc" (some 0) with
  accessFlags := 1537
  interfaces := #[]
  cf := some (fileOf pool6 1 #[] #[] 1537 3 #[] #[])
  fields := #[]
  methods := #[]
  instanceTypes := #[]
  staticTypes := #[]
  resolved := Array.replicate 37 none
  statics := none }

def pool7 : Array CpInfo := pool [(1, .methodref 2 3), (0, .class_ 4), (0, .nameAndType 5 6), (0, u "java/lang/Object"), (0, u "<init>"), (0, u "()V"), (0, .string 8), (0, u ""), (0, .fieldref 10 11), (0, .class_ 12), (0, .nameAndType 13 14), (0, u "java/lang/String"), (0, u "value"), (0, u "[B"), (0, .fieldref 10 16), (0, .nameAndType 17 18), (0, u "coder"), (0, u "B"), (2, u "hash"), (0, u "I"), (2, u "hashIsZero"), (0, u "Z"), (0, .methodref 10 28), (0, .nameAndType 5 29), (0, u "([CIILjava/lang/Void;)V"), (6, u "checkBoundsOffCount"), (0, u "(III)I"), (0, .fieldref 10 39), (0, .nameAndType 40 26), (0, u "COMPACT_STRINGS"), (1, .class_ 44), (1, u "java/lang/StringUTF16"), (0, u "compress"), (1, .methodref 42 48), (0, .nameAndType 49 50), (0, u "coderFromArrayLen"), (0, u "([BI)B"), (2, u "toBytes"), (1, .class_ 57), (1, u "java/util/Arrays"), (2, .methodref 42 61), (0, .nameAndType 62 63), (0, u "newBytesFor"), (0, u "(I)[B"), (22, .fieldref 87 88), (0, .class_ 89), (0, .nameAndType 90 91), (0, u "sun/nio/cs/UTF_8"), (0, u "INSTANCE"), (0, u "Lsun/nio/cs/UTF_8;"), (1, .class_ 95), (1, u "java/lang/StringCoding"), (6, .methodref 55 103), (0, .nameAndType 104 105), (0, u "copyOf"), (0, u "([BI)[B"), (1, .class_ 109), (1, u "java/lang/StringLatin1"), (18, .methodref 93 129), (0, .nameAndType 130 131), (0, u "hasNegatives"), (0, u "([BII)Z"), (10, u "()Z"), (34, .methodref 42 178), (0, .nameAndType 45 179), (0, u "([CII)[B"), (29, .methodref 10 210), (0, .nameAndType 5 211), (0, u "([BB)V"), (40, .methodref 10 253), (0, .nameAndType 254 255), (0, u "encodeUTF8"), (0, u "(B[BZ)[B"), (23, .methodref 280 281), (0, .class_ 14), (0, .nameAndType 282 283), (0, u "clone"), (0, u "()Ljava/lang/Object;"), (33, u "encode"), (16, u "()I"), (0, .methodref 10 336), (0, .nameAndType 17 337), (0, u "()B"), (22, .methodref 42 361), (0, .nameAndType 362 363), (0, u "getChar"), (0, u "([BI)C"), (5, u "(C)Z"), (103, .methodref 10 474), (0, .nameAndType 475 476), (0, u "encodeUTF8_UTF16"), (0, u "([BZ)[B"), (15, .methodref 10 493), (0, .nameAndType 494 142), (0, u "isLatin1"), (10, .methodref 10 506), (0, .nameAndType 507 334), (0, u "length"), (5, u "checkFromToIndex"), (7, .methodref 10 522), (0, .nameAndType 523 524), (0, u "checkBoundsBeginEnd"), (0, u "(III)V"), (7, u "getBytes"), (2, .methodref 10 536), (0, .nameAndType 317 537), (0, u "(Ljava/nio/charset/Charset;B[B)[B"), (37, .class_ 576), (0, u "java/lang/CharSequence"), (22, u "CASE_INSENSITIVE_ORDER"), (0, u "Ljava/util/Comparator;"), (32, .methodref 10 634), (0, .nameAndType 635 636), (0, u "indexOf"), (0, u "(II)I"), (0, .methodref 107 638), (0, .nameAndType 635 639), (0, u "([BIII)I"), (0, .methodref 42 638), (42, u "substring"), (0, u "(II)Ljava/lang/String;"), (0, .methodref 107 686), (0, .nameAndType 687 688), (0, u "newString"), (0, u "([BII)Ljava/lang/String;"), (0, .methodref 42 686), (75, u "(I)I"), (16, u "valueOf"), (0, u "(C)Ljava/lang/String;"), (226, u "([C)V"), (4, .methodref 107 1016), (0, .nameAndType 1017 369), (0, u "canEncode"), (0, .methodref 107 1019), (0, .nameAndType 53 1020), (0, u "(C)[B"), (0, .methodref 42 1019), (31, .fieldref 1054 1055), (0, .class_ 1056), (0, .nameAndType 1057 1058), (0, u "jdk/internal/util/Preconditions"), (0, u "SIOOBE_FORMATTER"), (0, u "Ljava/util/function/BiFunction;"), (3, .methodref 1054 1063), (0, .nameAndType 513 1064), (0, u "(IIILjava/util/function/BiFunction;)I"), (0, .methodref 1054 1066), (0, .nameAndType 1067 1064), (0, u "checkFromIndexSize"), (33, u "serialPersistentFields"), (0, u "[Ljava/io/ObjectStreamField;"), (0, .class_ 1104), (0, u "java/lang/String$CaseInsensitiveComparator"), (1, .class_ 1107), (0, u "java/io/Serializable"), (0, .class_ 1109), (0, u "java/lang/Comparable"), (0, .class_ 1111), (0, u "java/lang/constant/Constable"), (0, .class_ 1113), (0, u "java/lang/constant/ConstantDesc"), (2, u "serialVersionUID"), (0, u "J"), (3, u "REPL"), (0, u "C"), (2, u "LATIN1"), (1, u "UTF16"), (117, u "(Ljava/nio/charset/Charset;)[B")] 205

def k7m0 : Method := { name := "<init>", desc := "()V", sig := { parameters := [], returnType := none }, accessFlags := 1, code := none }
def k7c1 : Code := { maxStack := 5, maxLocals := 2, code := jdk_42_method_3_code, exceptionTable := #[], attributes := #[] }
def k7m1 : Method := { name := "<init>", desc := "([C)V", sig := { parameters := [(.array .char)], returnType := none }, accessFlags := 1, code := some k7c1 }
def k7c2 : Code := { maxStack := 4, maxLocals := 3, code := jdk_42_method_18_code, exceptionTable := #[], attributes := #[] }
def k7m2 : Method := { name := "encode", desc := "(Ljava/nio/charset/Charset;B[B)[B", sig := { parameters := [(.object "java/nio/charset/Charset"), .byte, (.array .byte)], returnType := some (.array .byte) }, accessFlags := 10, code := some k7c2 }
def k7c3 : Code := { maxStack := 5, maxLocals := 9, code := jdk_42_method_46_code, exceptionTable := #[], attributes := #[] }
def k7m3 : Method := { name := "encodeUTF8", desc := "(B[BZ)[B", sig := { parameters := [.byte, (.array .byte), .boolean], returnType := some (.array .byte) }, accessFlags := 10, code := some k7c3 }
def k7c4 : Code := { maxStack := 5, maxLocals := 9, code := jdk_42_method_47_code, exceptionTable := #[], attributes := #[] }
def k7m4 : Method := { name := "encodeUTF8_UTF16", desc := "([BZ)[B", sig := { parameters := [(.array .byte), .boolean], returnType := some (.array .byte) }, accessFlags := 10, code := some k7c4 }
def k7c5 : Code := { maxStack := 2, maxLocals := 1, code := jdk_42_method_54_code, exceptionTable := #[], attributes := #[] }
def k7m5 : Method := { name := "length", desc := "()I", sig := { parameters := [], returnType := some .int }, accessFlags := 1, code := some k7c5 }
def k7c6 : Code := { maxStack := 3, maxLocals := 2, code := jdk_42_method_64_code, exceptionTable := #[], attributes := #[] }
def k7m6 : Method := { name := "getBytes", desc := "(Ljava/nio/charset/Charset;)[B", sig := { parameters := [(.object "java/nio/charset/Charset")], returnType := some (.array .byte) }, accessFlags := 1, code := some k7c6 }
def k7c7 : Code := { maxStack := 3, maxLocals := 2, code := jdk_42_method_79_code, exceptionTable := #[], attributes := #[] }
def k7m7 : Method := { name := "indexOf", desc := "(I)I", sig := { parameters := [.int], returnType := some .int }, accessFlags := 1, code := some k7c7 }
def k7c8 : Code := { maxStack := 4, maxLocals := 3, code := jdk_42_method_80_code, exceptionTable := #[], attributes := #[] }
def k7m8 : Method := { name := "indexOf", desc := "(II)I", sig := { parameters := [.int, .int], returnType := some .int }, accessFlags := 1, code := some k7c8 }
def k7c9 : Code := { maxStack := 3, maxLocals := 5, code := jdk_42_method_92_code, exceptionTable := #[], attributes := #[] }
def k7m9 : Method := { name := "substring", desc := "(II)Ljava/lang/String;", sig := { parameters := [.int, .int], returnType := some (.object "java/lang/String") }, accessFlags := 1, code := some k7c9 }
def k7c10 : Code := { maxStack := 4, maxLocals := 1, code := jdk_42_method_139_code, exceptionTable := #[], attributes := #[] }
def k7m10 : Method := { name := "valueOf", desc := "(C)Ljava/lang/String;", sig := { parameters := [.char], returnType := some (.object "java/lang/String") }, accessFlags := 9, code := some k7c10 }
def k7c11 : Code := { maxStack := 4, maxLocals := 6, code := jdk_42_method_149_code, exceptionTable := #[], attributes := #[] }
def k7m11 : Method := { name := "<init>", desc := "([CIILjava/lang/Void;)V", sig := { parameters := [(.array .char), .int, .int, (.object "java/lang/Void")], returnType := none }, accessFlags := 2, code := some k7c11 }
def k7c12 : Code := { maxStack := 2, maxLocals := 3, code := jdk_42_method_151_code, exceptionTable := #[], attributes := #[] }
def k7m12 : Method := { name := "<init>", desc := "([BB)V", sig := { parameters := [(.array .byte), .byte], returnType := none }, accessFlags := 0, code := some k7c12 }
def k7c13 : Code := { maxStack := 1, maxLocals := 1, code := jdk_42_method_152_code, exceptionTable := #[], attributes := #[] }
def k7m13 : Method := { name := "coder", desc := "()B", sig := { parameters := [], returnType := some .byte }, accessFlags := 0, code := some k7c13 }
def k7c14 : Code := { maxStack := 1, maxLocals := 1, code := jdk_42_method_154_code, exceptionTable := #[], attributes := #[] }
def k7m14 : Method := { name := "isLatin1", desc := "()Z", sig := { parameters := [], returnType := some .boolean }, accessFlags := 0, code := some k7c14 }
def k7c15 : Code := { maxStack := 4, maxLocals := 3, code := jdk_42_method_157_code, exceptionTable := #[], attributes := #[] }
def k7m15 : Method := { name := "checkBoundsOffCount", desc := "(III)I", sig := { parameters := [.int, .int, .int], returnType := some .int }, accessFlags := 8, code := some k7c15 }
def k7c16 : Code := { maxStack := 4, maxLocals := 3, code := jdk_42_method_158_code, exceptionTable := #[], attributes := #[] }
def k7m16 : Method := { name := "checkBoundsBeginEnd", desc := "(III)V", sig := { parameters := [.int, .int, .int], returnType := none }, accessFlags := 8, code := some k7c16 }
/-- java/lang/String -/
def k7 : Class := { plain "java/lang/String" (some 0) with
  accessFlags := 49
  interfaces := #[2, 3, 4, 5, 6]
  cf := some (fileOf pool7 10 #[.nestMembers #[1103]] #[{ accessFlags := 1, nameIndex := 5, descriptorIndex := 6, attributes := #[] }, { accessFlags := 1, nameIndex := 5, descriptorIndex := 1010, attributes := #[] }, { accessFlags := 10, nameIndex := 317, descriptorIndex := 537, attributes := #[] }, { accessFlags := 10, nameIndex := 254, descriptorIndex := 255, attributes := #[] }, { accessFlags := 10, nameIndex := 475, descriptorIndex := 476, attributes := #[] }, { accessFlags := 1, nameIndex := 507, descriptorIndex := 334, attributes := #[] }, { accessFlags := 1, nameIndex := 532, descriptorIndex := 1245, attributes := #[] }, { accessFlags := 1, nameIndex := 635, descriptorIndex := 765, attributes := #[] }, { accessFlags := 1, nameIndex := 635, descriptorIndex := 636, attributes := #[] }, { accessFlags := 1, nameIndex := 683, descriptorIndex := 684, attributes := #[] }, { accessFlags := 9, nameIndex := 782, descriptorIndex := 783, attributes := #[] }, { accessFlags := 2, nameIndex := 5, descriptorIndex := 29, attributes := #[] }, { accessFlags := 0, nameIndex := 5, descriptorIndex := 211, attributes := #[] }, { accessFlags := 0, nameIndex := 17, descriptorIndex := 337, attributes := #[] }, { accessFlags := 0, nameIndex := 494, descriptorIndex := 142, attributes := #[] }, { accessFlags := 8, nameIndex := 36, descriptorIndex := 37, attributes := #[] }, { accessFlags := 8, nameIndex := 523, descriptorIndex := 524, attributes := #[] }] 49 2 #[1106, 1108, 575, 1110, 1112] #[{ accessFlags := 18, nameIndex := 13, descriptorIndex := 14, attributes := #[] }, { accessFlags := 18, nameIndex := 17, descriptorIndex := 18, attributes := #[] }, { accessFlags := 2, nameIndex := 21, descriptorIndex := 22, attributes := #[] }, { accessFlags := 2, nameIndex := 25, descriptorIndex := 26, attributes := #[] }, { accessFlags := 26, nameIndex := 1116, descriptorIndex := 1117, attributes := #[] }, { accessFlags := 24, nameIndex := 40, descriptorIndex := 26, attributes := #[] }, { accessFlags := 26, nameIndex := 1101, descriptorIndex := 1102, attributes := #[] }, { accessFlags := 26, nameIndex := 1121, descriptorIndex := 1122, attributes := #[] }, { accessFlags := 25, nameIndex := 599, descriptorIndex := 600, attributes := #[] }, { accessFlags := 24, nameIndex := 1125, descriptorIndex := 18, attributes := #[] }, { accessFlags := 24, nameIndex := 1127, descriptorIndex := 18, attributes := #[] }])
  fields := #[{ name := "value", type := (.array .byte), accessFlags := 18, slot := 0, constantValue := 0 }, { name := "coder", type := .byte, accessFlags := 18, slot := 1, constantValue := 0 }, { name := "hash", type := .int, accessFlags := 2, slot := 2, constantValue := 0 }, { name := "hashIsZero", type := .boolean, accessFlags := 2, slot := 3, constantValue := 0 }, { name := "serialVersionUID", type := .long, accessFlags := 26, slot := 0, constantValue := 0 }, { name := "COMPACT_STRINGS", type := .boolean, accessFlags := 24, slot := 1, constantValue := 0 }, { name := "serialPersistentFields", type := (.array (.object "java/io/ObjectStreamField")), accessFlags := 26, slot := 2, constantValue := 0 }, { name := "REPL", type := .char, accessFlags := 26, slot := 3, constantValue := 0 }, { name := "CASE_INSENSITIVE_ORDER", type := (.object "java/util/Comparator"), accessFlags := 25, slot := 4, constantValue := 0 }, { name := "LATIN1", type := .byte, accessFlags := 24, slot := 5, constantValue := 0 }, { name := "UTF16", type := .byte, accessFlags := 24, slot := 6, constantValue := 0 }]
  methods := #[k7m0, k7m1, k7m2, k7m3, k7m4, k7m5, k7m6, k7m7, k7m8, k7m9, k7m10, k7m11, k7m12, k7m13, k7m14, k7m15, k7m16]
  instanceTypes := #[(.array .byte), .byte, .int, .boolean]
  staticTypes := #[.long, .boolean, (.array (.object "java/io/ObjectStreamField")), .char, (.object "java/util/Comparator"), .byte, .byte]
  resolved := Array.replicate 1451 none
  statics := some 0 }

def pool8 : Array CpInfo := pool [(2, .class_ 4), (1, u "java/lang/Object"), (0, u "<init>"), (0, u "()V"), (0, .methodref 8 9), (0, .class_ 10), (0, .nameAndType 11 12), (0, u "holdfast/HashSlot"), (0, u "hashPart"), (0, u "(Ljava/lang/String;)Ljava/lang/String;"), (0, .fieldref 14 15), (0, .class_ 16), (0, .nameAndType 17 18), (0, u "java/nio/charset/StandardCharsets"), (0, u "UTF_8"), (0, u "Ljava/nio/charset/Charset;"), (0, .methodref 20 21), (0, .class_ 22), (0, .nameAndType 23 24), (0, u "java/lang/String"), (0, u "getBytes"), (0, u "(Ljava/nio/charset/Charset;)[B"), (0, .integer 32768), (0, .integer 65535), (8, .methodref 20 36), (0, .nameAndType 37 38), (0, u "indexOf"), (0, u "(I)I"), (21, .methodref 8 61), (0, .nameAndType 62 12), (0, u "tag"), (0, .methodref 20 64), (0, .nameAndType 37 65), (0, u "(II)I"), (0, .methodref 20 67), (0, .nameAndType 68 69), (0, u "substring"), (0, u "(II)Ljava/lang/String;"), (0, u "COUNT"), (0, u "I"), (2, u "CRC16_XMODEM"), (3, u "of"), (0, u "(Ljava/lang/String;)I")] 27

def k8m0 : Method := { name := "<init>", desc := "()V", sig := { parameters := [], returnType := none }, accessFlags := 2, code := none }
def k8c1 : Code := { maxStack := 3, maxLocals := 7, code := prog_2_method_2_code, exceptionTable := #[], attributes := #[] }
def k8m1 : Method := { name := "of", desc := "(Ljava/lang/String;)I", sig := { parameters := [(.object "java/lang/String")], returnType := some .int }, accessFlags := 8, code := some k8c1 }
def k8c2 : Code := { maxStack := 1, maxLocals := 2, code := prog_2_method_7_code, exceptionTable := #[], attributes := #[] }
def k8m2 : Method := { name := "hashPart", desc := "(Ljava/lang/String;)Ljava/lang/String;", sig := { parameters := [(.object "java/lang/String")], returnType := some (.object "java/lang/String") }, accessFlags := 10, code := some k8c2 }
def k8c3 : Code := { maxStack := 4, maxLocals := 3, code := prog_2_method_8_code, exceptionTable := #[], attributes := #[] }
def k8m3 : Method := { name := "tag", desc := "(Ljava/lang/String;)Ljava/lang/String;", sig := { parameters := [(.object "java/lang/String")], returnType := some (.object "java/lang/String") }, accessFlags := 10, code := some k8c3 }
/-- holdfast/HashSlot -/
def k8 : Class := { plain "holdfast/HashSlot" (some 0) with
  accessFlags := 48
  interfaces := #[]
  cf := some (fileOf pool8 8 #[] #[{ accessFlags := 2, nameIndex := 5, descriptorIndex := 6, attributes := #[] }, { accessFlags := 8, nameIndex := 78, descriptorIndex := 79, attributes := #[] }, { accessFlags := 10, nameIndex := 11, descriptorIndex := 12, attributes := #[] }, { accessFlags := 10, nameIndex := 62, descriptorIndex := 12, attributes := #[] }] 48 2 #[] #[{ accessFlags := 24, nameIndex := 70, descriptorIndex := 71, attributes := #[] }, { accessFlags := 26, nameIndex := 74, descriptorIndex := 71, attributes := #[] }])
  fields := #[{ name := "COUNT", type := .int, accessFlags := 24, slot := 0, constantValue := 0 }, { name := "CRC16_XMODEM", type := .int, accessFlags := 26, slot := 1, constantValue := 0 }]
  methods := #[k8m0, k8m1, k8m2, k8m3]
  instanceTypes := #[]
  staticTypes := #[.int, .int]
  resolved := Array.replicate 107 none
  statics := none }

def pool9 : Array CpInfo := pool [(1, .class_ 2), (0, u "java/lang/String"), (1, .class_ 6), (1, u "java/lang/Object"), (0, u "<init>"), (0, u "()V"), (5, .class_ 16), (1, u "java/lang/StringLatin1"), (21, .methodref 39 40), (0, .class_ 41), (0, .nameAndType 42 43), (0, u "java/lang/Math"), (0, u "min"), (0, u "(II)I"), (44, .methodref 14 89), (0, .nameAndType 90 91), (0, u "canEncode"), (0, u "(I)Z"), (0, .methodref 39 93), (0, .nameAndType 94 43), (0, u "max"), (0, .methodref 14 96), (0, .nameAndType 97 98), (0, u "indexOfChar"), (0, u "([BIII)I"), (2, u "indexOf"), (3, u "(C)Z"), (6, .methodref 1 113), (0, .nameAndType 7 114), (0, u "([BB)V"), (6, u "$assertionsDisabled"), (0, u "Z"), (8, .class_ 133), (1, u "java/util/Arrays"), (62, u "newString"), (0, u "([BII)Ljava/lang/String;"), (23, .class_ 223), (1, u "java/lang/StringLatin1$LinesSpliterator"), (8, .methodref 131 233), (0, .nameAndType 234 235), (0, u "copyOfRange"), (0, u "([BII)[B"), (144, u "toBytes"), (1, u "(C)[B"), (7, .class_ 391), (0, u "java/lang/StringLatin1$CharsSpliterator")] 3

def k9m0 : Method := { name := "<init>", desc := "()V", sig := { parameters := [], returnType := none }, accessFlags := 0, code := none }
def k9c1 : Code := { maxStack := 2, maxLocals := 1, code := jdk_43_method_3_code, exceptionTable := #[], attributes := #[] }
def k9m1 : Method := { name := "canEncode", desc := "(C)Z", sig := { parameters := [.char], returnType := some .boolean }, accessFlags := 9, code := some k9c1 }
def k9c2 : Code := { maxStack := 2, maxLocals := 1, code := jdk_43_method_4_code, exceptionTable := #[], attributes := #[] }
def k9m2 : Method := { name := "canEncode", desc := "(I)Z", sig := { parameters := [.int], returnType := some .boolean }, accessFlags := 9, code := some k9c2 }
def k9c3 : Code := { maxStack := 4, maxLocals := 4, code := jdk_43_method_22_code, exceptionTable := #[], attributes := #[] }
def k9m3 : Method := { name := "indexOf", desc := "([BIII)I", sig := { parameters := [(.array .byte), .int, .int, .int], returnType := some .int }, accessFlags := 9, code := some k9c3 }
def k9c4 : Code := { maxStack := 2, maxLocals := 6, code := jdk_43_method_23_code, exceptionTable := #[], attributes := #[] }
def k9m4 : Method := { name := "indexOfChar", desc := "([BIII)I", sig := { parameters := [(.array .byte), .int, .int, .int], returnType := some .int }, accessFlags := 10, code := some k9c4 }
def k9c5 : Code := { maxStack := 4, maxLocals := 1, code := jdk_43_method_46_code, exceptionTable := #[], attributes := #[] }
def k9m5 : Method := { name := "toBytes", desc := "(C)[B", sig := { parameters := [.char], returnType := some (.array .byte) }, accessFlags := 9, code := some k9c5 }
def k9c6 : Code := { maxStack := 6, maxLocals := 3, code := jdk_43_method_47_code, exceptionTable := #[], attributes := #[] }
def k9m6 : Method := { name := "newString", desc := "([BII)Ljava/lang/String;", sig := { parameters := [(.array .byte), .int, .int], returnType := some (.object "java/lang/String") }, accessFlags := 9, code := some k9c6 }
/-- java/lang/StringLatin1 -/
def k9 : Class := { plain "java/lang/StringLatin1" (some 0) with
  accessFlags := 48
  interfaces := #[]
  cf := some (fileOf pool9 14 #[.nestMembers #[390, 221]] #[{ accessFlags := 0, nameIndex := 7, descriptorIndex := 8, attributes := #[] }, { accessFlags := 9, nameIndex := 90, descriptorIndex := 105, attributes := #[] }, { accessFlags := 9, nameIndex := 90, descriptorIndex := 91, attributes := #[] }, { accessFlags := 9, nameIndex := 101, descriptorIndex := 98, attributes := #[] }, { accessFlags := 10, nameIndex := 97, descriptorIndex := 98, attributes := #[] }, { accessFlags := 9, nameIndex := 380, descriptorIndex := 382, attributes := #[] }, { accessFlags := 9, nameIndex := 196, descriptorIndex := 197, attributes := #[] }] 48 4 #[] #[{ accessFlags := 4120, nameIndex := 121, descriptorIndex := 122, attributes := #[] }])
  fields := #[{ name := "$assertionsDisabled", type := .boolean, accessFlags := 4120, slot := 0, constantValue := 0 }]
  methods := #[k9m0, k9m1, k9m2, k9m3, k9m4, k9m5, k9m6]
  instanceTypes := #[]
  staticTypes := #[.boolean]
  resolved := Array.replicate 395 none
  statics := none }

def pool10 : Array CpInfo := pool [(1, .class_ 2), (0, u "java/lang/Math"), (1, .class_ 6), (1, u "java/lang/Object"), (0, u "<init>"), (0, u "()V"), (89, .class_ 100), (1, u "java/lang/Math$RandomNumberGeneratorHolder"), (71, u "negativeZeroFloatBits"), (0, u "J"), (2, u "negativeZeroDoubleBits"), (21, u "max"), (2, u "min"), (43, u "$assertionsDisabled"), (0, u "Z"), (88, u "(II)I"), (2, u "twoToTheDoubleScaleDown"), (0, u "D"), (4, u "twoToTheDoubleScaleUp"), (9, u "E"), (3, u "PI"), (2, u "TAU"), (2, u "DEGREES_TO_RADIANS"), (0, u "RADIANS_TO_DEGREES")] 94

def k10m0 : Method := { name := "<init>", desc := "()V", sig := { parameters := [], returnType := none }, accessFlags := 2, code := none }
def k10c1 : Code := { maxStack := 2, maxLocals := 2, code := jdk_29_method_65_code, exceptionTable := #[], attributes := #[] }
def k10m1 : Method := { name := "max", desc := "(II)I", sig := { parameters := [.int, .int], returnType := some .int }, accessFlags := 9, code := some k10c1 }
def k10c2 : Code := { maxStack := 2, maxLocals := 2, code := jdk_29_method_69_code, exceptionTable := #[], attributes := #[] }
def k10m2 : Method := { name := "min", desc := "(II)I", sig := { parameters := [.int, .int], returnType := some .int }, accessFlags := 9, code := some k10c2 }
/-- java/lang/Math -/
def k10 : Class := { plain "java/lang/Math" (some 0) with
  accessFlags := 49
  interfaces := #[]
  cf := some (fileOf pool10 1 #[.nestMembers #[98]] #[{ accessFlags := 2, nameIndex := 7, descriptorIndex := 8, attributes := #[] }, { accessFlags := 9, nameIndex := 198, descriptorIndex := 335, attributes := #[] }, { accessFlags := 9, nameIndex := 201, descriptorIndex := 335, attributes := #[] }] 49 4 #[] #[{ accessFlags := 25, nameIndex := 354, descriptorIndex := 339, attributes := #[] }, { accessFlags := 25, nameIndex := 358, descriptorIndex := 339, attributes := #[] }, { accessFlags := 25, nameIndex := 361, descriptorIndex := 339, attributes := #[] }, { accessFlags := 26, nameIndex := 364, descriptorIndex := 339, attributes := #[] }, { accessFlags := 26, nameIndex := 365, descriptorIndex := 339, attributes := #[] }, { accessFlags := 26, nameIndex := 172, descriptorIndex := 173, attributes := #[] }, { accessFlags := 26, nameIndex := 176, descriptorIndex := 173, attributes := #[] }, { accessFlags := 8, nameIndex := 344, descriptorIndex := 339, attributes := #[] }, { accessFlags := 8, nameIndex := 338, descriptorIndex := 339, attributes := #[] }, { accessFlags := 4120, nameIndex := 245, descriptorIndex := 246, attributes := #[] }])
  fields := #[{ name := "E", type := .double, accessFlags := 25, slot := 0, constantValue := 0 }, { name := "PI", type := .double, accessFlags := 25, slot := 1, constantValue := 0 }, { name := "TAU", type := .double, accessFlags := 25, slot := 2, constantValue := 0 }, { name := "DEGREES_TO_RADIANS", type := .double, accessFlags := 26, slot := 3, constantValue := 0 }, { name := "RADIANS_TO_DEGREES", type := .double, accessFlags := 26, slot := 4, constantValue := 0 }, { name := "negativeZeroFloatBits", type := .long, accessFlags := 26, slot := 5, constantValue := 0 }, { name := "negativeZeroDoubleBits", type := .long, accessFlags := 26, slot := 6, constantValue := 0 }, { name := "twoToTheDoubleScaleUp", type := .double, accessFlags := 8, slot := 7, constantValue := 0 }, { name := "twoToTheDoubleScaleDown", type := .double, accessFlags := 8, slot := 8, constantValue := 0 }, { name := "$assertionsDisabled", type := .boolean, accessFlags := 4120, slot := 9, constantValue := 0 }]
  methods := #[k10m0, k10m1, k10m2]
  instanceTypes := #[]
  staticTypes := #[.double, .double, .double, .double, .double, .long, .long, .double, .double, .boolean]
  resolved := Array.replicate 460 none
  statics := none }

def pool11 : Array CpInfo := pool [(2, .class_ 4), (1, u "java/lang/Object"), (0, u "<init>"), (0, u "()V"), (14, .class_ 23), (1, u "java/nio/charset/StandardCharsets"), (0, u "US_ASCII"), (0, u "Ljava/nio/charset/Charset;"), (7, u "ISO_8859_1"), (7, u "UTF_8"), (5, u "UTF_16BE"), (5, u "UTF_16LE"), (5, u "UTF_16")] 8

def k11m0 : Method := { name := "<init>", desc := "()V", sig := { parameters := [], returnType := none }, accessFlags := 2, code := none }
/-- java/nio/charset/StandardCharsets -/
def k11 : Class := { plain "java/nio/charset/StandardCharsets" (some 0) with
  accessFlags := 49
  interfaces := #[]
  cf := some (fileOf pool11 21 #[] #[{ accessFlags := 2, nameIndex := 5, descriptorIndex := 6, attributes := #[] }] 49 2 #[] #[{ accessFlags := 25, nameIndex := 24, descriptorIndex := 25, attributes := #[] }, { accessFlags := 25, nameIndex := 33, descriptorIndex := 25, attributes := #[] }, { accessFlags := 25, nameIndex := 41, descriptorIndex := 25, attributes := #[] }, { accessFlags := 25, nameIndex := 47, descriptorIndex := 25, attributes := #[] }, { accessFlags := 25, nameIndex := 53, descriptorIndex := 25, attributes := #[] }, { accessFlags := 25, nameIndex := 59, descriptorIndex := 25, attributes := #[] }])
  fields := #[{ name := "US_ASCII", type := (.object "java/nio/charset/Charset"), accessFlags := 25, slot := 0, constantValue := 0 }, { name := "ISO_8859_1", type := (.object "java/nio/charset/Charset"), accessFlags := 25, slot := 1, constantValue := 0 }, { name := "UTF_8", type := (.object "java/nio/charset/Charset"), accessFlags := 25, slot := 2, constantValue := 0 }, { name := "UTF_16BE", type := (.object "java/nio/charset/Charset"), accessFlags := 25, slot := 3, constantValue := 0 }, { name := "UTF_16LE", type := (.object "java/nio/charset/Charset"), accessFlags := 25, slot := 4, constantValue := 0 }, { name := "UTF_16", type := (.object "java/nio/charset/Charset"), accessFlags := 25, slot := 5, constantValue := 0 }]
  methods := #[k11m0]
  instanceTypes := #[]
  staticTypes := #[(.object "java/nio/charset/Charset"), (.object "java/nio/charset/Charset"), (.object "java/nio/charset/Charset"), (.object "java/nio/charset/Charset"), (.object "java/nio/charset/Charset"), (.object "java/nio/charset/Charset")]
  resolved := Array.replicate 68 none
  statics := some 1 }

def pool12 : Array CpInfo := pool [(18, .class_ 20), (1, u "java/nio/charset/Charset"), (0, u "cache1"), (0, u "[Ljava/lang/Object;"), (2, u "cache2"), (0, .class_ 27), (0, u "java/lang/Object"), (0, .class_ 29), (0, u "java/nio/charset/Charset$1"), (4, .class_ 36), (1, u "java/nio/charset/Charset$ThreadTrackHolder"), (21, .class_ 59), (0, u "java/nio/charset/Charset$2"), (11, .class_ 73), (1, u "java/nio/charset/Charset$ExtendedProviderHolder"), (22, u "standardProvider"), (0, u "Ljava/nio/charset/spi/CharsetProvider;"), (29, u "name"), (7, .class_ 136), (0, u "java/nio/charset/Charset$3"), (5, u "defaultCharset"), (0, u "Ljava/nio/charset/Charset;"), (14, u "zeroAliases"), (0, u "[Ljava/lang/String;"), (29, u "Ljava/lang/String;"), (2, u "aliases"), (2, u "aliasSet"), (0, u "Ljava/util/Set;"), (82, .class_ 280), (0, u "java/lang/Comparable"), (84, .class_ 366), (0, u "java/nio/charset/Charset$ExtendedProviderHolder$1")] 3

/-- java/nio/charset/Charset -/
def k12 : Class := { plain "java/nio/charset/Charset" (some 0) with
  accessFlags := 1057
  interfaces := #[3]
  cf := some (fileOf pool12 18 #[.nestMembers #[71, 365, 34, 135, 58, 28]] #[] 1057 26 #[279] #[{ accessFlags := 26, nameIndex := 96, descriptorIndex := 97, attributes := #[] }, { accessFlags := 26, nameIndex := 158, descriptorIndex := 159, attributes := #[] }, { accessFlags := 74, nameIndex := 21, descriptorIndex := 22, attributes := #[] }, { accessFlags := 74, nameIndex := 25, descriptorIndex := 22, attributes := #[] }, { accessFlags := 10, nameIndex := 142, descriptorIndex := 143, attributes := #[] }, { accessFlags := 18, nameIndex := 127, descriptorIndex := 189, attributes := #[] }, { accessFlags := 18, nameIndex := 192, descriptorIndex := 159, attributes := #[] }, { accessFlags := 2, nameIndex := 195, descriptorIndex := 196, attributes := #[] }])
  fields := #[{ name := "standardProvider", type := (.object "java/nio/charset/spi/CharsetProvider"), accessFlags := 26, slot := 0, constantValue := 0 }, { name := "zeroAliases", type := (.array (.object "java/lang/String")), accessFlags := 26, slot := 1, constantValue := 0 }, { name := "cache1", type := (.array (.object "java/lang/Object")), accessFlags := 74, slot := 2, constantValue := 0 }, { name := "cache2", type := (.array (.object "java/lang/Object")), accessFlags := 74, slot := 3, constantValue := 0 }, { name := "defaultCharset", type := (.object "java/nio/charset/Charset"), accessFlags := 10, slot := 4, constantValue := 0 }, { name := "name", type := (.object "java/lang/String"), accessFlags := 18, slot := 0, constantValue := 0 }, { name := "aliases", type := (.array (.object "java/lang/String")), accessFlags := 18, slot := 1, constantValue := 0 }, { name := "aliasSet", type := (.object "java/util/Set"), accessFlags := 2, slot := 2, constantValue := 0 }]
  methods := #[]
  instanceTypes := #[(.object "java/lang/String"), (.array (.object "java/lang/String")), (.object "java/util/Set")]
  staticTypes := #[(.object "java/nio/charset/spi/CharsetProvider"), (.array (.object "java/lang/String")), (.array (.object "java/lang/Object")), (.array (.object "java/lang/Object")), (.object "java/nio/charset/Charset")]
  resolved := Array.replicate 370 none
  statics := none }

def pool13 : Array CpInfo := pool [(1, .class_ 2), (0, u "sun/nio/cs/HistoricallyNamedCharset"), (0, .class_ 4), (0, u "java/lang/Object")] 4

/-- sun/nio/cs/HistoricallyNamedCharset -/
def k13 : Class := { plain "sun/nio/cs/HistoricallyNamedCharset" (some 0) with
  accessFlags := 1537
  interfaces := #[]
  cf := some (fileOf pool13 1 #[] #[] 1537 3 #[] #[])
  fields := #[]
  methods := #[]
  instanceTypes := #[]
  staticTypes := #[]
  resolved := Array.replicate 9 none
  statics := none }

def pool14 : Array CpInfo := pool [(2, .class_ 4), (1, u "java/nio/charset/Charset"), (130, .class_ 136), (0, u "sun/nio/cs/Unicode"), (0, .class_ 138), (0, u "sun/nio/cs/HistoricallyNamedCharset")] 15

/-- sun/nio/cs/Unicode -/
def k14 : Class := { plain "sun/nio/cs/Unicode" (some 12) with
  accessFlags := 1056
  interfaces := #[13]
  cf := some (fileOf pool14 135 #[] #[] 1056 2 #[137] #[])
  fields := #[]
  methods := #[]
  instanceTypes := #[(.object "java/lang/String"), (.array (.object "java/lang/String")), (.object "java/util/Set")]
  staticTypes := #[]
  resolved := Array.replicate 154 none
  statics := none }

def pool15 : Array CpInfo := pool [(10, .class_ 12), (1, u "sun/nio/cs/Unicode"), (0, u "<init>"), (3, .class_ 18), (0, u "sun/nio/cs/UTF_8$Decoder"), (3, .class_ 23), (0, u "sun/nio/cs/UTF_8$Encoder"), (15, .class_ 40), (0, u "sun/nio/cs/UTF_8"), (2, u "()V"), (2, u "INSTANCE"), (0, u "Lsun/nio/cs/UTF_8;"), (8, u "JLA"), (0, u "Ljdk/internal/access/JavaLangAccess;")] 26

def k15m0 : Method := { name := "<init>", desc := "()V", sig := { parameters := [], returnType := none }, accessFlags := 1, code := none }
/-- sun/nio/cs/UTF_8 -/
def k15 : Class := { plain "sun/nio/cs/UTF_8" (some 14) with
  accessFlags := 49
  interfaces := #[]
  cf := some (fileOf pool15 39 #[.nestMembers #[22, 17]] #[{ accessFlags := 1, nameIndex := 13, descriptorIndex := 43, attributes := #[] }] 49 10 #[] #[{ accessFlags := 25, nameIndex := 46, descriptorIndex := 47, attributes := #[] }, { accessFlags := 26, nameIndex := 56, descriptorIndex := 57, attributes := #[] }])
  fields := #[{ name := "INSTANCE", type := (.object "sun/nio/cs/UTF_8"), accessFlags := 25, slot := 0, constantValue := 0 }, { name := "JLA", type := (.object "jdk/internal/access/JavaLangAccess"), accessFlags := 26, slot := 1, constantValue := 0 }]
  methods := #[k15m0]
  instanceTypes := #[(.object "java/lang/String"), (.array (.object "java/lang/String")), (.object "java/util/Set")]
  staticTypes := #[(.object "sun/nio/cs/UTF_8"), (.object "jdk/internal/access/JavaLangAccess")]
  resolved := Array.replicate 84 none
  statics := some 2 }

def pool16 : Array CpInfo := pool [(2, .class_ 4), (1, u "java/lang/Object"), (0, u "<init>"), (0, u "()V"), (0, .methodref 8 9), (0, .class_ 10), (0, .nameAndType 11 12), (0, u "java/lang/StringCoding"), (0, u "countPositives"), (0, u "([BII)I"), (11, u "hasNegatives"), (0, u "([BII)Z")] 23

def k16m0 : Method := { name := "<init>", desc := "()V", sig := { parameters := [], returnType := none }, accessFlags := 2, code := none }
def k16c1 : Code := { maxStack := 3, maxLocals := 3, code := jdk_123_method_2_code, exceptionTable := #[], attributes := #[] }
def k16m1 : Method := { name := "hasNegatives", desc := "([BII)Z", sig := { parameters := [(.array .byte), .int, .int], returnType := some .boolean }, accessFlags := 9, code := some k16c1 }
def k16c2 : Code := { maxStack := 2, maxLocals := 5, code := jdk_123_method_3_code, exceptionTable := #[], attributes := #[] }
def k16m2 : Method := { name := "countPositives", desc := "([BII)I", sig := { parameters := [(.array .byte), .int, .int], returnType := some .int }, accessFlags := 9, code := some k16c2 }
/-- java/lang/StringCoding -/
def k16 : Class := { plain "java/lang/StringCoding" (some 0) with
  accessFlags := 32
  interfaces := #[]
  cf := some (fileOf pool16 8 #[] #[{ accessFlags := 2, nameIndex := 5, descriptorIndex := 6, attributes := #[] }, { accessFlags := 9, nameIndex := 24, descriptorIndex := 25, attributes := #[] }, { accessFlags := 9, nameIndex := 11, descriptorIndex := 12, attributes := #[] }] 32 2 #[] #[])
  fields := #[]
  methods := #[k16m0, k16m1, k16m2]
  instanceTypes := #[]
  staticTypes := #[]
  resolved := Array.replicate 49 none
  statics := none }

def pool17 : Array CpInfo := pool [(1, .class_ 2), (0, u "java/lang/Cloneable"), (0, .class_ 4), (0, u "java/lang/Object")] 2

/-- java/lang/Cloneable -/
def k17 : Class := { plain "java/lang/Cloneable" (some 0) with
  accessFlags := 1537
  interfaces := #[]
  cf := some (fileOf pool17 1 #[] #[] 1537 3 #[] #[])
  fields := #[]
  methods := #[]
  instanceTypes := #[]
  staticTypes := #[]
  resolved := Array.replicate 7 none
  statics := none }

def pool18 : Array CpInfo := pool [(3, .class_ 4), (0, u "java/lang/String"), (1, .class_ 8), (1, u "java/lang/Object"), (0, u "<init>"), (0, u "()V"), (0, .methodref 12 13), (0, .class_ 14), (0, .nameAndType 15 16), (0, u "java/lang/StringUTF16"), (0, u "newBytesLength"), (0, u "(I)I"), (3, .integer 1073741823), (23, .fieldref 12 45), (0, .nameAndType 46 47), (0, u "$assertionsDisabled"), (0, u "Z"), (0, .methodref 12 49), (0, .nameAndType 50 51), (0, u "length"), (0, u "([B)I"), (7, .fieldref 12 60), (0, .nameAndType 61 62), (0, u "HI_BYTE_SHIFT"), (0, u "I"), (0, .fieldref 12 64), (0, .nameAndType 65 62), (0, u "LO_BYTE_SHIFT"), (5, .methodref 12 72), (0, .nameAndType 73 74), (0, u "getChar"), (0, u "([BI)C"), (21, .methodref 12 97), (0, .nameAndType 98 99), (0, u "checkBoundsBeginEnd"), (0, u "(II[B)V"), (7, .methodref 12 108), (0, .nameAndType 109 110), (0, u "newBytesFor"), (0, u "(I)[B"), (0, .methodref 12 112), (0, .nameAndType 113 114), (0, u "putChar"), (0, u "([BII)V"), (0, .methodref 12 116), (0, .nameAndType 117 118), (0, u "compress"), (0, u "([CI[BII)I"), (0, .methodref 12 120), (0, .nameAndType 121 122), (0, u "toBytes"), (0, u "([CII)[B"), (0, .methodref 12 124), (0, .nameAndType 117 125), (0, u "([BI[BII)I"), (0, .methodref 127 128), (0, .class_ 129), (0, .nameAndType 130 131), (0, u "java/util/Arrays"), (0, u "copyOfRange"), (0, u "([BII)[B"), (41, .methodref 12 174), (0, .nameAndType 175 99), (0, u "checkBoundsOffCount"), (7, .methodref 184 185), (0, .class_ 186), (0, .nameAndType 187 188), (0, u "java/lang/Math"), (0, u "min"), (0, u "(II)I"), (35, .methodref 184 225), (0, .nameAndType 226 188), (0, u "max"), (0, .integer 65536), (0, .methodref 12 229), (0, .nameAndType 230 231), (0, u "indexOfChar"), (0, u "([BIII)I"), (9, .methodref 3 242), (0, .nameAndType 98 243), (0, u "(III)V"), (0, .methodref 12 245), (0, .nameAndType 246 231), (0, u "indexOfCharUnsafe"), (4, .fieldref 3 252), (0, .nameAndType 253 47), (0, u "COMPACT_STRINGS"), (3, .methodref 12 258), (0, .nameAndType 117 131), (0, .methodref 12 260), (0, .nameAndType 261 262), (0, u "coderFromArrayLen"), (0, u "([BI)B"), (0, .methodref 3 264), (0, .nameAndType 9 265), (0, u "([BB)V"), (2, u "indexOf"), (12, u "(III)I"), (45, u "newString"), (0, u "([BII)Ljava/lang/String;"), (40, .class_ 371), (1, u "java/lang/StringUTF16$LinesSpliterator"), (47, .methodref 3 420), (0, .nameAndType 175 281), (9, u "MAX_LENGTH"), (44, u "(C)[B"), (151, .class_ 628), (0, u "java/lang/StringUTF16$CodePointsSpliterator"), (0, .class_ 630), (0, u "java/lang/StringUTF16$CharsSpliterator")] 4

def k18m0 : Method := { name := "<init>", desc := "()V", sig := { parameters := [], returnType := none }, accessFlags := 0, code := none }
def k18c1 : Code := { maxStack := 1, maxLocals := 1, code := jdk_52_method_2_code, exceptionTable := #[], attributes := #[] }
def k18m1 : Method := { name := "newBytesFor", desc := "(I)[B", sig := { parameters := [.int], returnType := some (.array .byte) }, accessFlags := 9, code := some k18c1 }
def k18c2 : Code := { maxStack := 4, maxLocals := 1, code := jdk_52_method_3_code, exceptionTable := #[], attributes := #[] }
def k18m2 : Method := { name := "newBytesLength", desc := "(I)I", sig := { parameters := [.int], returnType := some .int }, accessFlags := 9, code := some k18c2 }
def k18c3 : Code := { maxStack := 4, maxLocals := 3, code := jdk_52_method_4_code, exceptionTable := #[], attributes := #[] }
def k18m3 : Method := { name := "putChar", desc := "([BII)V", sig := { parameters := [(.array .byte), .int, .int], returnType := none }, accessFlags := 8, code := some k18c3 }
def k18c4 : Code := { maxStack := 3, maxLocals := 2, code := jdk_52_method_5_code, exceptionTable := #[], attributes := #[] }
def k18m4 : Method := { name := "getChar", desc := "([BI)C", sig := { parameters := [(.array .byte), .int], returnType := some .char }, accessFlags := 8, code := some k18c4 }
def k18c5 : Code := { maxStack := 2, maxLocals := 1, code := jdk_52_method_6_code, exceptionTable := #[], attributes := #[] }
def k18m5 : Method := { name := "length", desc := "([B)I", sig := { parameters := [(.array .byte)], returnType := some .int }, accessFlags := 9, code := some k18c5 }
def k18c6 : Code := { maxStack := 4, maxLocals := 5, code := jdk_52_method_14_code, exceptionTable := #[], attributes := #[] }
def k18m6 : Method := { name := "toBytes", desc := "([CII)[B", sig := { parameters := [(.array .char), .int, .int], returnType := some (.array .byte) }, accessFlags := 9, code := some k18c6 }
def k18c7 : Code := { maxStack := 2, maxLocals := 2, code := jdk_52_method_15_code, exceptionTable := #[], attributes := #[] }
def k18m7 : Method := { name := "coderFromArrayLen", desc := "([BI)B", sig := { parameters := [(.array .byte), .int], returnType := some .byte }, accessFlags := 8, code := some k18c7 }
def k18c8 : Code := { maxStack := 5, maxLocals := 6, code := jdk_52_method_16_code, exceptionTable := #[], attributes := #[] }
def k18m8 : Method := { name := "compress", desc := "([CII)[B", sig := { parameters := [(.array .char), .int, .int], returnType := some (.array .byte) }, accessFlags := 9, code := some k18c8 }
def k18c9 : Code := { maxStack := 5, maxLocals := 6, code := jdk_52_method_17_code, exceptionTable := #[], attributes := #[] }
def k18m9 : Method := { name := "compress", desc := "([BII)[B", sig := { parameters := [(.array .byte), .int, .int], returnType := some (.array .byte) }, accessFlags := 9, code := some k18c9 }
def k18c10 : Code := { maxStack := 3, maxLocals := 7, code := jdk_52_method_21_code, exceptionTable := #[], attributes := #[] }
def k18m10 : Method := { name := "compress", desc := "([CI[BII)I", sig := { parameters := [(.array .char), .int, (.array .byte), .int, .int], returnType := some .int }, accessFlags := 9, code := some k18c10 }
def k18c11 : Code := { maxStack := 3, maxLocals := 7, code := jdk_52_method_22_code, exceptionTable := #[], attributes := #[] }
def k18m11 : Method := { name := "compress", desc := "([BI[BII)I", sig := { parameters := [(.array .byte), .int, (.array .byte), .int, .int], returnType := some .int }, accessFlags := 9, code := some k18c11 }
def k18c12 : Code := { maxStack := 3, maxLocals := 2, code := jdk_52_method_24_code, exceptionTable := #[], attributes := #[] }
def k18m12 : Method := { name := "toBytes", desc := "(C)[B", sig := { parameters := [.char], returnType := some (.array .byte) }, accessFlags := 9, code := some k18c12 }
def k18c13 : Code := { maxStack := 4, maxLocals := 4, code := jdk_52_method_40_code, exceptionTable := #[], attributes := #[] }
def k18m13 : Method := { name := "indexOf", desc := "([BIII)I", sig := { parameters := [(.array .byte), .int, .int, .int], returnType := some .int }, accessFlags := 9, code := some k18c13 }
def k18c14 : Code := { maxStack := 4, maxLocals := 4, code := jdk_52_method_47_code, exceptionTable := #[], attributes := #[] }
def k18m14 : Method := { name := "indexOfChar", desc := "([BIII)I", sig := { parameters := [(.array .byte), .int, .int, .int], returnType := some .int }, accessFlags := 10, code := some k18c14 }
def k18c15 : Code := { maxStack := 2, maxLocals := 5, code := jdk_52_method_48_code, exceptionTable := #[], attributes := #[] }
def k18m15 : Method := { name := "indexOfCharUnsafe", desc := "([BIII)I", sig := { parameters := [(.array .byte), .int, .int, .int], returnType := some .int }, accessFlags := 10, code := some k18c15 }
def k18c16 : Code := { maxStack := 6, maxLocals := 5, code := jdk_52_method_69_code, exceptionTable := #[], attributes := #[] }
def k18m16 : Method := { name := "newString", desc := "([BII)Ljava/lang/String;", sig := { parameters := [(.array .byte), .int, .int], returnType := some (.object "java/lang/String") }, accessFlags := 9, code := some k18c16 }
def k18c17 : Code := { maxStack := 3, maxLocals := 3, code := jdk_52_method_93_code, exceptionTable := #[], attributes := #[] }
def k18m17 : Method := { name := "checkBoundsBeginEnd", desc := "(II[B)V", sig := { parameters := [.int, .int, (.array .byte)], returnType := none }, accessFlags := 9, code := some k18c17 }
def k18c18 : Code := { maxStack := 3, maxLocals := 3, code := jdk_52_method_94_code, exceptionTable := #[], attributes := #[] }
def k18m18 : Method := { name := "checkBoundsOffCount", desc := "(II[B)V", sig := { parameters := [.int, .int, (.array .byte)], returnType := none }, accessFlags := 9, code := some k18c18 }
/-- java/lang/StringUTF16 -/
def k18 : Class := { plain "java/lang/StringUTF16" (some 0) with
  accessFlags := 48
  interfaces := #[]
  cf := some (fileOf pool18 12 #[.nestMembers #[627, 629, 369]] #[{ accessFlags := 0, nameIndex := 9, descriptorIndex := 10, attributes := #[] }, { accessFlags := 9, nameIndex := 109, descriptorIndex := 110, attributes := #[] }, { accessFlags := 9, nameIndex := 15, descriptorIndex := 16, attributes := #[] }, { accessFlags := 8, nameIndex := 113, descriptorIndex := 114, attributes := #[] }, { accessFlags := 8, nameIndex := 73, descriptorIndex := 74, attributes := #[] }, { accessFlags := 9, nameIndex := 50, descriptorIndex := 51, attributes := #[] }, { accessFlags := 9, nameIndex := 121, descriptorIndex := 122, attributes := #[] }, { accessFlags := 8, nameIndex := 261, descriptorIndex := 262, attributes := #[] }, { accessFlags := 9, nameIndex := 117, descriptorIndex := 122, attributes := #[] }, { accessFlags := 9, nameIndex := 117, descriptorIndex := 131, attributes := #[] }, { accessFlags := 9, nameIndex := 117, descriptorIndex := 118, attributes := #[] }, { accessFlags := 9, nameIndex := 117, descriptorIndex := 125, attributes := #[] }, { accessFlags := 9, nameIndex := 121, descriptorIndex := 475, attributes := #[] }, { accessFlags := 9, nameIndex := 268, descriptorIndex := 231, attributes := #[] }, { accessFlags := 10, nameIndex := 230, descriptorIndex := 231, attributes := #[] }, { accessFlags := 10, nameIndex := 246, descriptorIndex := 231, attributes := #[] }, { accessFlags := 9, nameIndex := 327, descriptorIndex := 328, attributes := #[] }, { accessFlags := 9, nameIndex := 98, descriptorIndex := 99, attributes := #[] }, { accessFlags := 9, nameIndex := 175, descriptorIndex := 99, attributes := #[] }] 48 6 #[] #[{ accessFlags := 26, nameIndex := 61, descriptorIndex := 62, attributes := #[] }, { accessFlags := 26, nameIndex := 65, descriptorIndex := 62, attributes := #[] }, { accessFlags := 24, nameIndex := 430, descriptorIndex := 62, attributes := #[] }, { accessFlags := 4120, nameIndex := 46, descriptorIndex := 47, attributes := #[] }])
  fields := #[{ name := "HI_BYTE_SHIFT", type := .int, accessFlags := 26, slot := 0, constantValue := 0 }, { name := "LO_BYTE_SHIFT", type := .int, accessFlags := 26, slot := 1, constantValue := 0 }, { name := "MAX_LENGTH", type := .int, accessFlags := 24, slot := 2, constantValue := 0 }, { name := "$assertionsDisabled", type := .boolean, accessFlags := 4120, slot := 3, constantValue := 0 }]
  methods := #[k18m0, k18m1, k18m2, k18m3, k18m4, k18m5, k18m6, k18m7, k18m8, k18m9, k18m10, k18m11, k18m12, k18m13, k18m14, k18m15, k18m16, k18m17, k18m18]
  instanceTypes := #[]
  staticTypes := #[.int, .int, .int, .boolean]
  resolved := Array.replicate 635 none
  statics := some 3 }

def pool19 : Array CpInfo := pool [(2, .class_ 4), (1, u "java/lang/Object"), (0, u "<init>"), (0, u "()V"), (17, .class_ 26), (1, u "jdk/internal/util/Preconditions"), (20, u "checkFromToIndex"), (1, u "checkFromIndexSize"), (5, .class_ 56), (0, u "jdk/internal/util/Preconditions$4"), (57, .class_ 115), (0, u "jdk/internal/util/Preconditions$1"), (7, u "SIOOBE_FORMATTER"), (0, u "Ljava/util/function/BiFunction;"), (0, .class_ 126), (0, u "jdk/internal/util/Preconditions$2"), (3, u "AIOOBE_FORMATTER"), (0, .class_ 132), (0, u "jdk/internal/util/Preconditions$3"), (3, u "IOOBE_FORMATTER"), (46, u "(IIILjava/util/function/BiFunction;)I")] 10

def k19m0 : Method := { name := "<init>", desc := "()V", sig := { parameters := [], returnType := none }, accessFlags := 1, code := none }
def k19c1 : Code := { maxStack := 4, maxLocals := 4, code := jdk_41_method_12_code, exceptionTable := #[], attributes := #[] }
def k19m1 : Method := { name := "checkFromToIndex", desc := "(IIILjava/util/function/BiFunction;)I", sig := { parameters := [.int, .int, .int, (.object "java/util/function/BiFunction")], returnType := some .int }, accessFlags := 9, code := some k19c1 }
def k19c2 : Code := { maxStack := 4, maxLocals := 4, code := jdk_41_method_13_code, exceptionTable := #[], attributes := #[] }
def k19m2 : Method := { name := "checkFromIndexSize", desc := "(IIILjava/util/function/BiFunction;)I", sig := { parameters := [.int, .int, .int, (.object "java/util/function/BiFunction")], returnType := some .int }, accessFlags := 9, code := some k19c2 }
/-- jdk/internal/util/Preconditions -/
def k19 : Class := { plain "jdk/internal/util/Preconditions" (some 0) with
  accessFlags := 33
  interfaces := #[]
  cf := some (fileOf pool19 24 #[.nestMembers #[55, 131, 125, 114]] #[{ accessFlags := 1, nameIndex := 5, descriptorIndex := 6, attributes := #[] }, { accessFlags := 9, nameIndex := 47, descriptorIndex := 183, attributes := #[] }, { accessFlags := 9, nameIndex := 49, descriptorIndex := 183, attributes := #[] }] 33 2 #[] #[{ accessFlags := 25, nameIndex := 123, descriptorIndex := 124, attributes := #[] }, { accessFlags := 25, nameIndex := 130, descriptorIndex := 124, attributes := #[] }, { accessFlags := 25, nameIndex := 136, descriptorIndex := 124, attributes := #[] }])
  fields := #[{ name := "SIOOBE_FORMATTER", type := (.object "java/util/function/BiFunction"), accessFlags := 25, slot := 0, constantValue := 0 }, { name := "AIOOBE_FORMATTER", type := (.object "java/util/function/BiFunction"), accessFlags := 25, slot := 1, constantValue := 0 }, { name := "IOOBE_FORMATTER", type := (.object "java/util/function/BiFunction"), accessFlags := 25, slot := 2, constantValue := 0 }]
  methods := #[k19m0, k19m1, k19m2]
  instanceTypes := #[]
  staticTypes := #[(.object "java/util/function/BiFunction"), (.object "java/util/function/BiFunction"), (.object "java/util/function/BiFunction")]
  resolved := Array.replicate 194 none
  statics := some 4 }

def pool20 : Array CpInfo := pool [(2, .class_ 4), (1, u "java/lang/Object"), (0, u "<init>"), (0, u "()V"), (7, .class_ 16), (1, u "java/util/Arrays"), (57, .class_ 76), (1, u "java/util/Arrays$NaturalOrder"), (36, .class_ 115), (1, u "java/util/Arrays$LegacyMergeSort"), (1, u "Z"), (21, u "copyOfRange"), (10, .methodref 151 152), (0, .class_ 153), (0, .nameAndType 154 155), (0, u "java/lang/System"), (0, u "arraycopy"), (0, u "(Ljava/lang/Object;ILjava/lang/Object;II)V"), (146, u "copyOf"), (1, .methodref 305 306), (0, .class_ 307), (0, .nameAndType 308 309), (0, u "java/lang/Math"), (0, u "min"), (0, u "(II)I"), (29, .methodref 14 340), (0, .nameAndType 341 342), (0, u "copyOfRangeByte"), (0, u "([BII)[B"), (0, .methodref 14 344), (0, .nameAndType 345 346), (0, u "checkLength"), (0, u "(II)V"), (28, .class_ 376), (0, u "java/util/Arrays$ArrayList"), (68, u "$assertionsDisabled"), (269, u "MIN_ARRAY_SORT_GRAN"), (0, u "I"), (2, u "INSERTIONSORT_THRESHOLD"), (149, u "([BI)[B"), (105, .class_ 976), (0, u "java/util/Arrays$ArrayItr")] 52

def k20m0 : Method := { name := "<init>", desc := "()V", sig := { parameters := [], returnType := none }, accessFlags := 2, code := none }
def k20c1 : Code := { maxStack := 6, maxLocals := 3, code := jdk_65_method_121_code, exceptionTable := #[], attributes := #[] }
def k20m1 : Method := { name := "copyOf", desc := "([BI)[B", sig := { parameters := [(.array .byte), .int], returnType := some (.array .byte) }, accessFlags := 9, code := some k20c1 }
def k20c2 : Code := { maxStack := 4, maxLocals := 2, code := jdk_65_method_131_code, exceptionTable := #[], attributes := #[] }
def k20m2 : Method := { name := "checkLength", desc := "(II)V", sig := { parameters := [.int, .int], returnType := none }, accessFlags := 10, code := some k20c2 }
def k20c3 : Code := { maxStack := 3, maxLocals := 3, code := jdk_65_method_132_code, exceptionTable := #[], attributes := #[] }
def k20m3 : Method := { name := "copyOfRange", desc := "([BII)[B", sig := { parameters := [(.array .byte), .int, .int], returnType := some (.array .byte) }, accessFlags := 9, code := some k20c3 }
def k20c4 : Code := { maxStack := 6, maxLocals := 5, code := jdk_65_method_133_code, exceptionTable := #[], attributes := #[] }
def k20m4 : Method := { name := "copyOfRangeByte", desc := "([BII)[B", sig := { parameters := [(.array .byte), .int, .int], returnType := some (.array .byte) }, accessFlags := 10, code := some k20c4 }
/-- java/util/Arrays -/
def k20 : Class := { plain "java/util/Arrays" (some 0) with
  accessFlags := 49
  interfaces := #[]
  cf := some (fileOf pool20 14 #[.nestMembers #[975, 375, 113, 74]] #[{ accessFlags := 2, nameIndex := 5, descriptorIndex := 6, attributes := #[] }, { accessFlags := 9, nameIndex := 302, descriptorIndex := 869, attributes := #[] }, { accessFlags := 10, nameIndex := 345, descriptorIndex := 346, attributes := #[] }, { accessFlags := 9, nameIndex := 139, descriptorIndex := 342, attributes := #[] }, { accessFlags := 10, nameIndex := 341, descriptorIndex := 342, attributes := #[] }] 49 2 #[] #[{ accessFlags := 26, nameIndex := 715, descriptorIndex := 716, attributes := #[] }, { accessFlags := 26, nameIndex := 719, descriptorIndex := 716, attributes := #[] }, { accessFlags := 4120, nameIndex := 445, descriptorIndex := 117, attributes := #[] }])
  fields := #[{ name := "MIN_ARRAY_SORT_GRAN", type := .int, accessFlags := 26, slot := 0, constantValue := 0 }, { name := "INSERTIONSORT_THRESHOLD", type := .int, accessFlags := 26, slot := 1, constantValue := 0 }, { name := "$assertionsDisabled", type := .boolean, accessFlags := 4120, slot := 2, constantValue := 0 }]
  methods := #[k20m0, k20m1, k20m2, k20m3, k20m4]
  instanceTypes := #[]
  staticTypes := #[.int, .int, .boolean]
  resolved := Array.replicate 1029 none
  statics := none }

def pool21 : Array CpInfo := pool [(2, .class_ 4), (1, u "java/lang/Object"), (0, u "<init>"), (0, u "()V"), (1, .class_ 10), (1, u "java/lang/System"), (0, u "allowSecurityManager"), (0, u "I"), (16, u "cons"), (0, u "Ljava/io/Console;"), (77, .class_ 110), (1, u "java/lang/System$CallersHolder"), (43, u "initialErrStream"), (0, u "Ljava/io/PrintStream;"), (19, u "security"), (0, u "Ljava/lang/SecurityManager;"), (31, .class_ 209), (0, u "java/lang/System$1"), (7, u "props"), (0, u "Ljava/util/Properties;"), (2, u "lineSeparator"), (0, u "Ljava/lang/String;"), (96, .class_ 321), (1, u "java/lang/System$LoggerFinder"), (5, .class_ 328), (0, u "java/lang/System$Logger"), (67, u "err"), (2, u "out"), (91, u "notSupportedJnuEncoding"), (15, u "in"), (17, u "initialIn"), (0, u "Ljava/io/InputStream;"), (35, u "bootLayer"), (0, u "Ljava/lang/ModuleLayer;"), (99, .class_ 664), (0, u "java/lang/System$2"), (9, u "NEVER"), (2, u "MAYBE"), (49, u "arraycopy"), (0, u "(Ljava/lang/Object;ILjava/lang/Object;II)V"), (72, .class_ 802), (0, u "java/lang/System$Logger$Level")] 31

def k21m0 : Method := { name := "<init>", desc := "()V", sig := { parameters := [], returnType := none }, accessFlags := 2, code := none }
def k21m1 : Method := { name := "arraycopy", desc := "(Ljava/lang/Object;ILjava/lang/Object;II)V", sig := { parameters := [(.object "java/lang/Object"), .int, (.object "java/lang/Object"), .int, .int], returnType := none }, accessFlags := 265, code := none }
/-- java/lang/System -/
def k21 : Class := { plain "java/lang/System" (some 0) with
  accessFlags := 49
  interfaces := #[]
  cf := some (fileOf pool21 8 #[.nestMembers #[319, 327, 801, 108, 663, 208]] #[{ accessFlags := 2, nameIndex := 5, descriptorIndex := 6, attributes := #[] }, { accessFlags := 265, nameIndex := 727, descriptorIndex := 728, attributes := #[] }] 49 2 #[] #[{ accessFlags := 25, nameIndex := 507, descriptorIndex := 526, attributes := #[] }, { accessFlags := 25, nameIndex := 399, descriptorIndex := 155, attributes := #[] }, { accessFlags := 25, nameIndex := 396, descriptorIndex := 155, attributes := #[] }, { accessFlags := 10, nameIndex := 525, descriptorIndex := 526, attributes := #[] }, { accessFlags := 26, nameIndex := 674, descriptorIndex := 12, attributes := #[] }, { accessFlags := 26, nameIndex := 677, descriptorIndex := 12, attributes := #[] }, { accessFlags := 10, nameIndex := 11, descriptorIndex := 12, attributes := #[] }, { accessFlags := 74, nameIndex := 175, descriptorIndex := 176, attributes := #[] }, { accessFlags := 10, nameIndex := 491, descriptorIndex := 222, attributes := #[] }, { accessFlags := 74, nameIndex := 29, descriptorIndex := 30, attributes := #[] }, { accessFlags := 74, nameIndex := 154, descriptorIndex := 155, attributes := #[] }, { accessFlags := 10, nameIndex := 217, descriptorIndex := 218, attributes := #[] }, { accessFlags := 10, nameIndex := 221, descriptorIndex := 222, attributes := #[] }, { accessFlags := 8, nameIndex := 562, descriptorIndex := 563, attributes := #[] }])
  fields := #[{ name := "in", type := (.object "java/io/InputStream"), accessFlags := 25, slot := 0, constantValue := 0 }, { name := "out", type := (.object "java/io/PrintStream"), accessFlags := 25, slot := 1, constantValue := 0 }, { name := "err", type := (.object "java/io/PrintStream"), accessFlags := 25, slot := 2, constantValue := 0 }, { name := "initialIn", type := (.object "java/io/InputStream"), accessFlags := 10, slot := 3, constantValue := 0 }, { name := "NEVER", type := .int, accessFlags := 26, slot := 4, constantValue := 0 }, { name := "MAYBE", type := .int, accessFlags := 26, slot := 5, constantValue := 0 }, { name := "allowSecurityManager", type := .int, accessFlags := 10, slot := 6, constantValue := 0 }, { name := "security", type := (.object "java/lang/SecurityManager"), accessFlags := 74, slot := 7, constantValue := 0 }, { name := "notSupportedJnuEncoding", type := (.object "java/lang/String"), accessFlags := 10, slot := 8, constantValue := 0 }, { name := "cons", type := (.object "java/io/Console"), accessFlags := 74, slot := 9, constantValue := 0 }, { name := "initialErrStream", type := (.object "java/io/PrintStream"), accessFlags := 74, slot := 10, constantValue := 0 }, { name := "props", type := (.object "java/util/Properties"), accessFlags := 10, slot := 11, constantValue := 0 }, { name := "lineSeparator", type := (.object "java/lang/String"), accessFlags := 10, slot := 12, constantValue := 0 }, { name := "bootLayer", type := (.object "java/lang/ModuleLayer"), accessFlags := 8, slot := 13, constantValue := 0 }]
  methods := #[k21m0, k21m1]
  instanceTypes := #[]
  staticTypes := #[(.object "java/io/InputStream"), (.object "java/io/PrintStream"), (.object "java/io/PrintStream"), (.object "java/io/InputStream"), .int, .int, .int, (.object "java/lang/SecurityManager"), (.object "java/lang/String"), (.object "java/io/Console"), (.object "java/io/PrintStream"), (.object "java/util/Properties"), (.object "java/lang/String"), (.object "java/lang/ModuleLayer")]
  resolved := Array.replicate 834 none
  statics := none }

def pool22 : Array CpInfo := pool [(9, u "<init>"), (6, .class_ 18), (1, u "java/lang/Object"), (0, u "()V"), (1, .class_ 23), (1, u "jdk/internal/util/ArraysSupport"), (0, u "LOG2_ARRAY_LONG_INDEX_SCALE"), (0, u "I"), (2, u "U"), (0, u "Ljdk/internal/misc/Unsafe;"), (8, u "BIG_ENDIAN"), (0, u "Z"), (8, u "LOG2_BYTE_BIT_SIZE"), (4, u "LOG2_ARRAY_INT_INDEX_SCALE"), (54, u "JLA"), (0, u "Ljdk/internal/access/JavaLangAccess;"), (11, u "LOG2_ARRAY_BOOLEAN_INDEX_SCALE"), (9, u "LOG2_ARRAY_BYTE_INDEX_SCALE"), (5, u "LOG2_ARRAY_CHAR_INDEX_SCALE"), (5, u "LOG2_ARRAY_SHORT_INDEX_SCALE"), (18, u "LOG2_ARRAY_FLOAT_INDEX_SCALE"), (24, u "LOG2_ARRAY_DOUBLE_INDEX_SCALE"), (89, u "T_BOOLEAN"), (2, u "T_CHAR"), (1, u "T_FLOAT"), (1, u "T_DOUBLE"), (1, u "T_BYTE"), (1, u "T_SHORT"), (1, u "T_INT"), (1, u "T_LONG"), (1, u "SOFT_MAX_ARRAY_LENGTH")] 83

def k22m0 : Method := { name := "<init>", desc := "()V", sig := { parameters := [], returnType := none }, accessFlags := 2, code := none }
/-- jdk/internal/util/ArraysSupport -/
def k22 : Class := { plain "jdk/internal/util/ArraysSupport" (some 0) with
  accessFlags := 33
  interfaces := #[]
  cf := some (fileOf pool22 21 #[] #[{ accessFlags := 2, nameIndex := 9, descriptorIndex := 19, attributes := #[] }] 33 16 #[] #[{ accessFlags := 24, nameIndex := 28, descriptorIndex := 29, attributes := #[] }, { accessFlags := 26, nameIndex := 38, descriptorIndex := 39, attributes := #[] }, { accessFlags := 25, nameIndex := 121, descriptorIndex := 25, attributes := #[] }, { accessFlags := 25, nameIndex := 131, descriptorIndex := 25, attributes := #[] }, { accessFlags := 25, nameIndex := 137, descriptorIndex := 25, attributes := #[] }, { accessFlags := 25, nameIndex := 143, descriptorIndex := 25, attributes := #[] }, { accessFlags := 25, nameIndex := 53, descriptorIndex := 25, attributes := #[] }, { accessFlags := 25, nameIndex := 24, descriptorIndex := 25, attributes := #[] }, { accessFlags := 25, nameIndex := 162, descriptorIndex := 25, attributes := #[] }, { accessFlags := 25, nameIndex := 187, descriptorIndex := 25, attributes := #[] }, { accessFlags := 26, nameIndex := 48, descriptorIndex := 25, attributes := #[] }, { accessFlags := 25, nameIndex := 277, descriptorIndex := 25, attributes := #[] }, { accessFlags := 25, nameIndex := 280, descriptorIndex := 25, attributes := #[] }, { accessFlags := 25, nameIndex := 282, descriptorIndex := 25, attributes := #[] }, { accessFlags := 25, nameIndex := 284, descriptorIndex := 25, attributes := #[] }, { accessFlags := 25, nameIndex := 286, descriptorIndex := 25, attributes := #[] }, { accessFlags := 25, nameIndex := 288, descriptorIndex := 25, attributes := #[] }, { accessFlags := 25, nameIndex := 290, descriptorIndex := 25, attributes := #[] }, { accessFlags := 25, nameIndex := 292, descriptorIndex := 25, attributes := #[] }, { accessFlags := 26, nameIndex := 108, descriptorIndex := 109, attributes := #[] }, { accessFlags := 25, nameIndex := 294, descriptorIndex := 25, attributes := #[] }])
  fields := #[{ name := "U", type := (.object "jdk/internal/misc/Unsafe"), accessFlags := 24, slot := 0, constantValue := 0 }, { name := "BIG_ENDIAN", type := .boolean, accessFlags := 26, slot := 1, constantValue := 0 }, { name := "LOG2_ARRAY_BOOLEAN_INDEX_SCALE", type := .int, accessFlags := 25, slot := 2, constantValue := 0 }, { name := "LOG2_ARRAY_BYTE_INDEX_SCALE", type := .int, accessFlags := 25, slot := 3, constantValue := 0 }, { name := "LOG2_ARRAY_CHAR_INDEX_SCALE", type := .int, accessFlags := 25, slot := 4, constantValue := 0 }, { name := "LOG2_ARRAY_SHORT_INDEX_SCALE", type := .int, accessFlags := 25, slot := 5, constantValue := 0 }, { name := "LOG2_ARRAY_INT_INDEX_SCALE", type := .int, accessFlags := 25, slot := 6, constantValue := 0 }, { name := "LOG2_ARRAY_LONG_INDEX_SCALE", type := .int, accessFlags := 25, slot := 7, constantValue := 0 }, { name := "LOG2_ARRAY_FLOAT_INDEX_SCALE", type := .int, accessFlags := 25, slot := 8, constantValue := 0 }, { name := "LOG2_ARRAY_DOUBLE_INDEX_SCALE", type := .int, accessFlags := 25, slot := 9, constantValue := 0 }, { name := "LOG2_BYTE_BIT_SIZE", type := .int, accessFlags := 26, slot := 10, constantValue := 0 }, { name := "T_BOOLEAN", type := .int, accessFlags := 25, slot := 11, constantValue := 0 }, { name := "T_CHAR", type := .int, accessFlags := 25, slot := 12, constantValue := 0 }, { name := "T_FLOAT", type := .int, accessFlags := 25, slot := 13, constantValue := 0 }, { name := "T_DOUBLE", type := .int, accessFlags := 25, slot := 14, constantValue := 0 }, { name := "T_BYTE", type := .int, accessFlags := 25, slot := 15, constantValue := 0 }, { name := "T_SHORT", type := .int, accessFlags := 25, slot := 16, constantValue := 0 }, { name := "T_INT", type := .int, accessFlags := 25, slot := 17, constantValue := 0 }, { name := "T_LONG", type := .int, accessFlags := 25, slot := 18, constantValue := 0 }, { name := "JLA", type := (.object "jdk/internal/access/JavaLangAccess"), accessFlags := 26, slot := 19, constantValue := 0 }, { name := "SOFT_MAX_ARRAY_LENGTH", type := .int, accessFlags := 25, slot := 20, constantValue := 0 }]
  methods := #[k22m0]
  instanceTypes := #[]
  staticTypes := #[(.object "jdk/internal/misc/Unsafe"), .boolean, .int, .int, .int, .int, .int, .int, .int, .int, .int, .int, .int, .int, .int, .int, .int, .int, .int, (.object "jdk/internal/access/JavaLangAccess"), .int]
  resolved := Array.replicate 378 none
  statics := none }

/-- the primitive byte -/
def k23 : Class := { plain "byte" none with kind := .primitive 'B', accessFlags := 0x411 }
/-- [B -/
def k24 : Class := { plain "[B" (some 0) with kind := .array 23 .byte, interfaces := #[17, 2], accessFlags := 1041 }

/-- the primitive char -/
def k25 : Class := { plain "char" none with kind := .primitive 'C', accessFlags := 0x411 }
/-- [C -/
def k26 : Class := { plain "[C" (some 0) with kind := .array 25 .char, interfaces := #[17, 2], accessFlags := 1041 }

/-- the primitive int -/
def k27 : Class := { plain "int" none with kind := .primitive 'I', accessFlags := 0x411 }
/-- [I -/
def k28 : Class := { plain "[I" (some 0) with kind := .array 27 .int, interfaces := #[17, 2], accessFlags := 1041 }

def heap : Heap := #[{ cls := 7, slots := #[.long 0, .int 1, .null, .int 0, .null, .int 0, .int 0], vm := .statics 7 },
  { cls := 11, slots := #[.null, .null, .ref 5, .null, .null, .null], vm := .statics 11 },
  { cls := 15, slots := #[.ref 5, .null], vm := .statics 15 },
  { cls := 18, slots := #[.int 0, .int 8, .int 0, .int 1], vm := .statics 18 },
  { cls := 19, slots := #[.null, .null, .null], vm := .statics 19 },
  { cls := 15, slots := #[.null, .null, .null], vm := .none }]
def classes : Array Class := #[k0, k1, k2, k3, k4, k5, k6, k7, k8, k9, k10, k11, k12, k13, k14, k15, k16, k17, k18, k19, k20, k21, k22, k23, k24, k25, k26, k27, k28]
def interned : List (Array UInt16 × Addr) := []
def slotsUsed : Nat := 25
def theMethod : MethodId := ⟨1, 1⟩
def args0 : Array Value := #[.int 3, .int 131137, .int 131138, .int 131139, .int 131140]
def aboutOver (below : List Frame) : State where
  vm := { classes := classes, interned := interned.toArray }
  heap := heap
  slotsUsed := slotsUsed
  threads := #[{ frames := .invoking theMethod args0 :: below }]
def below0 : List Frame := [.native { method := ⟨0, 0⟩, args := #[] }]
def about1 : State := aboutOver below0
def p0 : Program := .bare "" "" ""
def e0 : Env := launch0.env 0 0 0
theorem w_frames : about1.frames = Frame.invoking theMethod args0 :: below0 := rfl
set_option maxRecDepth 65536 in
theorem w_args : argsFit about1.vm theMethod args0 = true := by decide +kernel
set_option maxRecDepth 65536 in
theorem w_heap : heapFits about1 = true := by decide +kernel
set_option maxRecDepth 65536 in
theorem w_runnable : about1.curStatus? = some .runnable := by decide +kernel
set_option maxRecDepth 65536 in
theorem w_alone : about1.alone = true := by decide +kernel
set_option maxRecDepth 65536 in
theorem w_named : about1.methodNamed? x = some theMethod := by decide +kernel
set_option maxRecDepth 65536 in
theorem w_hears : about1.hears theMethod below0 = true := by decide +kernel
set_option maxRecDepth 65536 in
theorem w_ripe : about1.ripe theMethod args0 below0 = true := by decide +kernel
theorem w_running : about1.status = .running := rfl
set_option maxRecDepth 65536 in
theorem w_room : about1.hasRoom e0.platform room_1 = true :=
  launch0.hasRoom_least _ room_1 (by decide +kernel) (by decide +kernel) (by decide +kernel) (by decide +kernel) (by decide +kernel) (by decide +kernel)
theorem allAtoms_all (ts : List Jvm.Cond) (a : Array Jvm.Value) (st : Jvm.State) : (allAtoms ts).before a st = ts.all (fun c => c.before a st) := by
  induction ts with
  | nil => rfl
  | cons c t ih =>
    show (Jvm.Cond.and c (allAtoms t)).before a st = _
    rw [Jvm.Cond.before_and, ih, List.all_cons]
def words1 : List Jvm.Cond := Jvm.Cond.code x code maxLocals ret :: tables_1
/-- a 'code' word, met by the world's own term for the bytes: nothing is compared byte by byte -/
theorem code_word {y : MethodName} {bytes : ByteArray} {mx : Nat} {rt : Option FieldType} {a : Array Value} {s : State} {m : MethodId} {meth : Method} {c : Code} (h1 : s.methodNamed? y = some m) (h2 : s.vm.method? m = some meth) (h3 : meth.code = some c) (h4 : c.code = bytes)
    (h5 : (c.maxLocals == mx && c.exceptionTable.isEmpty && decide (c.maxStack ≤ mostOperands) && decide (meth.sig.returnType = rt) && !meth.locks && decide (parseMethodDescriptor y.desc = some meth.sig)) = true) : (Jvm.Cond.code y bytes mx rt).before a s = true := by
  simp only [Bool.and_eq_true, beq_iff_eq, Bool.not_eq_true', decide_eq_true_eq] at h5
  obtain ⟨⟨⟨⟨⟨g1, g2⟩, g3⟩, g4⟩, g5⟩, g6⟩ := h5
  simp [Cond.before, Cond.holds, Cond.value, h1, h2, h3, h4, g1, g2, g3, g4, g5, g6]
def isCode : Jvm.Cond → Bool
  | .code _ _ _ _ => true
  | _ => false
theorem all_split {L : List Jvm.Cond} {P : Jvm.Cond → Bool} (h1 : L.all (fun c => isCode c || P c) = true) (h2 : ∀ c ∈ L.filter isCode, P c = true) : L.all P = true := by
  refine List.all_eq_true.mpr fun c hc => ?_
  have h := List.all_eq_true.mp h1 c hc
  rcases Bool.eq_false_or_eq_true (isCode c) with hi | hi
  · exact h2 c (List.mem_filter.mpr ⟨hc, hi⟩)
  · simpa [hi] using h
set_option maxRecDepth 65536 in
theorem w_c0 : (Jvm.Cond.code x code maxLocals ret).before args0 about1 = true := code_word (m := ⟨1, 1⟩) (meth := k1m1) (c := k1c1) (by decide +kernel) rfl rfl rfl (by decide +kernel)
set_option maxRecDepth 65536 in
theorem w_c1 : (Jvm.Cond.code ({ cls := "holdfast/HashSlotOfPinLaw", name := "draw", desc := "(I)C" } : Jvm.MethodName) method_3_code (2 : Nat) (Option.some Jvm.ClassFile.FieldType.char)).before args0 about1 = true := code_word (m := ⟨1, 2⟩) (meth := k1m2) (c := k1c2) (by decide +kernel) rfl rfl rfl (by decide +kernel)
set_option maxRecDepth 65536 in
theorem w_c2 : (Jvm.Cond.code ({ cls := "holdfast/HashSlotOfPinLaw", name := "make", desc := "(ICCCC)Ljava/lang/String;" } : Jvm.MethodName) method_4_code (5 : Nat) (Option.some (Jvm.ClassFile.FieldType.object "java/lang/String"))).before args0 about1 = true := code_word (m := ⟨1, 3⟩) (meth := k1m3) (c := k1c3) (by decide +kernel) rfl rfl rfl (by decide +kernel)
set_option maxRecDepth 65536 in
theorem w_c3 : (Jvm.Cond.code ({ cls := "java/lang/String", name := "<init>", desc := "([C)V" } : Jvm.MethodName) jdk_42_method_3_code (2 : Nat) (Option.none : Option Jvm.ClassFile.FieldType)).before args0 about1 = true := code_word (m := ⟨7, 1⟩) (meth := k7m1) (c := k7c1) (by decide +kernel) rfl rfl rfl (by decide +kernel)
set_option maxRecDepth 65536 in
theorem w_c4 : (Jvm.Cond.code ({ cls := "java/lang/String", name := "<init>", desc := "([CIILjava/lang/Void;)V" } : Jvm.MethodName) jdk_42_method_149_code (6 : Nat) (Option.none : Option Jvm.ClassFile.FieldType)).before args0 about1 = true := code_word (m := ⟨7, 11⟩) (meth := k7m11) (c := k7c11) (by decide +kernel) rfl rfl rfl (by decide +kernel)
set_option maxRecDepth 65536 in
theorem w_c5 : (Jvm.Cond.code ({ cls := "java/lang/Object", name := "<init>", desc := "()V" } : Jvm.MethodName) object_method_1_code (1 : Nat) (Option.none : Option Jvm.ClassFile.FieldType)).before args0 about1 = true := code_word (m := ⟨0, 0⟩) (meth := k0m0) (c := k0c0) (by decide +kernel) rfl rfl rfl (by decide +kernel)
set_option maxRecDepth 65536 in
theorem w_c6 : (Jvm.Cond.code ({ cls := "holdfast/HashSlotOfPinLaw", name := "find", desc := "([CICI)I" } : Jvm.MethodName) method_5_code (4 : Nat) (Option.some Jvm.ClassFile.FieldType.int)).before args0 about1 = true := code_word (m := ⟨1, 4⟩) (meth := k1m4) (c := k1c4) (by decide +kernel) rfl rfl rfl (by decide +kernel)
set_option maxRecDepth 65536 in
theorem w_c7 : (Jvm.Cond.code ({ cls := "holdfast/HashSlotOfPinLaw", name := "at", desc := "(I[CIII)I" } : Jvm.MethodName) method_6_code (5 : Nat) (Option.some Jvm.ClassFile.FieldType.int)).before args0 about1 = true := code_word (m := ⟨1, 5⟩) (meth := k1m5) (c := k1c5) (by decide +kernel) rfl rfl rfl (by decide +kernel)
set_option maxRecDepth 65536 in
theorem w_c8 : (Jvm.Cond.code ({ cls := "holdfast/HashSlot", name := "of", desc := "(Ljava/lang/String;)I" } : Jvm.MethodName) prog_2_method_2_code (7 : Nat) (Option.some Jvm.ClassFile.FieldType.int)).before args0 about1 = true := code_word (m := ⟨8, 1⟩) (meth := k8m1) (c := k8c1) (by decide +kernel) rfl rfl rfl (by decide +kernel)
set_option maxRecDepth 65536 in
theorem w_c9 : (Jvm.Cond.code ({ cls := "holdfast/HashSlot", name := "hashPart", desc := "(Ljava/lang/String;)Ljava/lang/String;" } : Jvm.MethodName) prog_2_method_7_code (2 : Nat) (Option.some (Jvm.ClassFile.FieldType.object "java/lang/String"))).before args0 about1 = true := code_word (m := ⟨8, 2⟩) (meth := k8m2) (c := k8c2) (by decide +kernel) rfl rfl rfl (by decide +kernel)
set_option maxRecDepth 65536 in
theorem w_c10 : (Jvm.Cond.code ({ cls := "holdfast/HashSlot", name := "tag", desc := "(Ljava/lang/String;)Ljava/lang/String;" } : Jvm.MethodName) prog_2_method_8_code (3 : Nat) (Option.some (Jvm.ClassFile.FieldType.object "java/lang/String"))).before args0 about1 = true := code_word (m := ⟨8, 3⟩) (meth := k8m3) (c := k8c3) (by decide +kernel) rfl rfl rfl (by decide +kernel)
set_option maxRecDepth 65536 in
theorem w_c11 : (Jvm.Cond.code ({ cls := "java/lang/String", name := "indexOf", desc := "(I)I" } : Jvm.MethodName) jdk_42_method_79_code (2 : Nat) (Option.some Jvm.ClassFile.FieldType.int)).before args0 about1 = true := code_word (m := ⟨7, 7⟩) (meth := k7m7) (c := k7c7) (by decide +kernel) rfl rfl rfl (by decide +kernel)
set_option maxRecDepth 65536 in
theorem w_c12 : (Jvm.Cond.code ({ cls := "java/lang/String", name := "indexOf", desc := "(II)I" } : Jvm.MethodName) jdk_42_method_80_code (3 : Nat) (Option.some Jvm.ClassFile.FieldType.int)).before args0 about1 = true := code_word (m := ⟨7, 8⟩) (meth := k7m8) (c := k7c8) (by decide +kernel) rfl rfl rfl (by decide +kernel)
set_option maxRecDepth 65536 in
theorem w_c13 : (Jvm.Cond.code ({ cls := "java/lang/String", name := "isLatin1", desc := "()Z" } : Jvm.MethodName) jdk_42_method_154_code (1 : Nat) (Option.some Jvm.ClassFile.FieldType.boolean)).before args0 about1 = true := code_word (m := ⟨7, 14⟩) (meth := k7m14) (c := k7c14) (by decide +kernel) rfl rfl rfl (by decide +kernel)
set_option maxRecDepth 65536 in
theorem w_c14 : (Jvm.Cond.code ({ cls := "java/lang/String", name := "length", desc := "()I" } : Jvm.MethodName) jdk_42_method_54_code (1 : Nat) (Option.some Jvm.ClassFile.FieldType.int)).before args0 about1 = true := code_word (m := ⟨7, 5⟩) (meth := k7m5) (c := k7c5) (by decide +kernel) rfl rfl rfl (by decide +kernel)
set_option maxRecDepth 65536 in
theorem w_c15 : (Jvm.Cond.code ({ cls := "java/lang/String", name := "coder", desc := "()B" } : Jvm.MethodName) jdk_42_method_152_code (1 : Nat) (Option.some Jvm.ClassFile.FieldType.byte)).before args0 about1 = true := code_word (m := ⟨7, 13⟩) (meth := k7m13) (c := k7c13) (by decide +kernel) rfl rfl rfl (by decide +kernel)
set_option maxRecDepth 65536 in
theorem w_c16 : (Jvm.Cond.code ({ cls := "java/lang/StringLatin1", name := "indexOf", desc := "([BIII)I" } : Jvm.MethodName) jdk_43_method_22_code (4 : Nat) (Option.some Jvm.ClassFile.FieldType.int)).before args0 about1 = true := code_word (m := ⟨9, 3⟩) (meth := k9m3) (c := k9c3) (by decide +kernel) rfl rfl rfl (by decide +kernel)
set_option maxRecDepth 65536 in
theorem w_c17 : (Jvm.Cond.code ({ cls := "java/lang/StringLatin1", name := "canEncode", desc := "(I)Z" } : Jvm.MethodName) jdk_43_method_4_code (1 : Nat) (Option.some Jvm.ClassFile.FieldType.boolean)).before args0 about1 = true := code_word (m := ⟨9, 2⟩) (meth := k9m2) (c := k9c2) (by decide +kernel) rfl rfl rfl (by decide +kernel)
set_option maxRecDepth 65536 in
theorem w_c18 : (Jvm.Cond.code ({ cls := "java/lang/Math", name := "max", desc := "(II)I" } : Jvm.MethodName) jdk_29_method_65_code (2 : Nat) (Option.some Jvm.ClassFile.FieldType.int)).before args0 about1 = true := code_word (m := ⟨10, 1⟩) (meth := k10m1) (c := k10c1) (by decide +kernel) rfl rfl rfl (by decide +kernel)
set_option maxRecDepth 65536 in
theorem w_c19 : (Jvm.Cond.code ({ cls := "java/lang/Math", name := "min", desc := "(II)I" } : Jvm.MethodName) jdk_29_method_69_code (2 : Nat) (Option.some Jvm.ClassFile.FieldType.int)).before args0 about1 = true := code_word (m := ⟨10, 2⟩) (meth := k10m2) (c := k10c2) (by decide +kernel) rfl rfl rfl (by decide +kernel)
set_option maxRecDepth 65536 in
theorem w_c20 : (Jvm.Cond.code ({ cls := "java/lang/String", name := "getBytes", desc := "(Ljava/nio/charset/Charset;)[B" } : Jvm.MethodName) jdk_42_method_64_code (2 : Nat) (Option.some (Jvm.ClassFile.FieldType.array Jvm.ClassFile.FieldType.byte))).before args0 about1 = true := code_word (m := ⟨7, 6⟩) (meth := k7m6) (c := k7c6) (by decide +kernel) rfl rfl rfl (by decide +kernel)
set_option maxRecDepth 65536 in
theorem w_c21 : (Jvm.Cond.code ({ cls := "java/lang/String", name := "encode", desc := "(Ljava/nio/charset/Charset;B[B)[B" } : Jvm.MethodName) jdk_42_method_18_code (3 : Nat) (Option.some (Jvm.ClassFile.FieldType.array Jvm.ClassFile.FieldType.byte))).before args0 about1 = true := code_word (m := ⟨7, 2⟩) (meth := k7m2) (c := k7c2) (by decide +kernel) rfl rfl rfl (by decide +kernel)
set_option maxRecDepth 65536 in
theorem w_c22 : (Jvm.Cond.code ({ cls := "java/lang/String", name := "encodeUTF8", desc := "(B[BZ)[B" } : Jvm.MethodName) jdk_42_method_46_code (9 : Nat) (Option.some (Jvm.ClassFile.FieldType.array Jvm.ClassFile.FieldType.byte))).before args0 about1 = true := code_word (m := ⟨7, 3⟩) (meth := k7m3) (c := k7c3) (by decide +kernel) rfl rfl rfl (by decide +kernel)
set_option maxRecDepth 65536 in
theorem w_c23 : (Jvm.Cond.code ({ cls := "java/lang/StringCoding", name := "hasNegatives", desc := "([BII)Z" } : Jvm.MethodName) jdk_123_method_2_code (3 : Nat) (Option.some Jvm.ClassFile.FieldType.boolean)).before args0 about1 = true := code_word (m := ⟨16, 1⟩) (meth := k16m1) (c := k16c1) (by decide +kernel) rfl rfl rfl (by decide +kernel)
set_option maxRecDepth 65536 in
theorem w_c24 : (Jvm.Cond.code ({ cls := "java/lang/StringCoding", name := "countPositives", desc := "([BII)I" } : Jvm.MethodName) jdk_123_method_3_code (5 : Nat) (Option.some Jvm.ClassFile.FieldType.int)).before args0 about1 = true := code_word (m := ⟨16, 2⟩) (meth := k16m2) (c := k16c2) (by decide +kernel) rfl rfl rfl (by decide +kernel)
set_option maxRecDepth 65536 in
theorem w_c25 : (Jvm.Cond.code ({ cls := "java/lang/StringUTF16", name := "compress", desc := "([CII)[B" } : Jvm.MethodName) jdk_52_method_16_code (6 : Nat) (Option.some (Jvm.ClassFile.FieldType.array Jvm.ClassFile.FieldType.byte))).before args0 about1 = true := code_word (m := ⟨18, 8⟩) (meth := k18m8) (c := k18c8) (by decide +kernel) rfl rfl rfl (by decide +kernel)
set_option maxRecDepth 65536 in
theorem w_c26 : (Jvm.Cond.code ({ cls := "java/lang/StringUTF16", name := "compress", desc := "([CI[BII)I" } : Jvm.MethodName) jdk_52_method_21_code (7 : Nat) (Option.some Jvm.ClassFile.FieldType.int)).before args0 about1 = true := code_word (m := ⟨18, 10⟩) (meth := k18m10) (c := k18c10) (by decide +kernel) rfl rfl rfl (by decide +kernel)
set_option maxRecDepth 65536 in
theorem w_c27 : (Jvm.Cond.code ({ cls := "java/lang/StringUTF16", name := "coderFromArrayLen", desc := "([BI)B" } : Jvm.MethodName) jdk_52_method_15_code (2 : Nat) (Option.some Jvm.ClassFile.FieldType.byte)).before args0 about1 = true := code_word (m := ⟨18, 7⟩) (meth := k18m7) (c := k18c7) (by decide +kernel) rfl rfl rfl (by decide +kernel)
set_option maxRecDepth 65536 in
theorem w_c28 : (Jvm.Cond.code ({ cls := "holdfast/HashSlotOfPinLaw", name := "feedChar", desc := "(IC)I" } : Jvm.MethodName) method_7_code (4 : Nat) (Option.some Jvm.ClassFile.FieldType.int)).before args0 about1 = true := code_word (m := ⟨1, 6⟩) (meth := k1m6) (c := k1c6) (by decide +kernel) rfl rfl rfl (by decide +kernel)
set_option maxRecDepth 65536 in
theorem w_c29 : (Jvm.Cond.code ({ cls := "holdfast/HashSlotOfPinLaw", name := "step", desc := "(II)I" } : Jvm.MethodName) method_8_code (3 : Nat) (Option.some Jvm.ClassFile.FieldType.int)).before args0 about1 = true := code_word (m := ⟨1, 7⟩) (meth := k1m7) (c := k1c7) (by decide +kernel) rfl rfl rfl (by decide +kernel)
set_option maxRecDepth 65536 in
theorem w_c30 : (Jvm.Cond.code ({ cls := "java/lang/StringLatin1", name := "indexOfChar", desc := "([BIII)I" } : Jvm.MethodName) jdk_43_method_23_code (6 : Nat) (Option.some Jvm.ClassFile.FieldType.int)).before args0 about1 = true := code_word (m := ⟨9, 4⟩) (meth := k9m4) (c := k9c4) (by decide +kernel) rfl rfl rfl (by decide +kernel)
set_option maxRecDepth 65536 in
theorem w_c31 : (Jvm.Cond.code ({ cls := "java/lang/StringUTF16", name := "toBytes", desc := "([CII)[B" } : Jvm.MethodName) jdk_52_method_14_code (5 : Nat) (Option.some (Jvm.ClassFile.FieldType.array Jvm.ClassFile.FieldType.byte))).before args0 about1 = true := code_word (m := ⟨18, 6⟩) (meth := k18m6) (c := k18c6) (by decide +kernel) rfl rfl rfl (by decide +kernel)
set_option maxRecDepth 65536 in
theorem w_c32 : (Jvm.Cond.code ({ cls := "java/lang/StringUTF16", name := "newBytesFor", desc := "(I)[B" } : Jvm.MethodName) jdk_52_method_2_code (1 : Nat) (Option.some (Jvm.ClassFile.FieldType.array Jvm.ClassFile.FieldType.byte))).before args0 about1 = true := code_word (m := ⟨18, 1⟩) (meth := k18m1) (c := k18c1) (by decide +kernel) rfl rfl rfl (by decide +kernel)
set_option maxRecDepth 65536 in
theorem w_c33 : (Jvm.Cond.code ({ cls := "java/lang/StringUTF16", name := "newBytesLength", desc := "(I)I" } : Jvm.MethodName) jdk_52_method_3_code (1 : Nat) (Option.some Jvm.ClassFile.FieldType.int)).before args0 about1 = true := code_word (m := ⟨18, 2⟩) (meth := k18m2) (c := k18c2) (by decide +kernel) rfl rfl rfl (by decide +kernel)
set_option maxRecDepth 65536 in
theorem w_c34 : (Jvm.Cond.code ({ cls := "java/lang/StringUTF16", name := "putChar", desc := "([BII)V" } : Jvm.MethodName) jdk_52_method_4_code (3 : Nat) (Option.none : Option Jvm.ClassFile.FieldType)).before args0 about1 = true := code_word (m := ⟨18, 3⟩) (meth := k18m3) (c := k18c3) (by decide +kernel) rfl rfl rfl (by decide +kernel)
set_option maxRecDepth 65536 in
theorem w_c35 : (Jvm.Cond.code ({ cls := "java/lang/StringUTF16", name := "getChar", desc := "([BI)C" } : Jvm.MethodName) jdk_52_method_5_code (2 : Nat) (Option.some Jvm.ClassFile.FieldType.char)).before args0 about1 = true := code_word (m := ⟨18, 4⟩) (meth := k18m4) (c := k18c4) (by decide +kernel) rfl rfl rfl (by decide +kernel)
set_option maxRecDepth 65536 in
theorem w_c36 : (Jvm.Cond.code ({ cls := "java/lang/StringUTF16", name := "indexOf", desc := "([BIII)I" } : Jvm.MethodName) jdk_52_method_40_code (4 : Nat) (Option.some Jvm.ClassFile.FieldType.int)).before args0 about1 = true := code_word (m := ⟨18, 13⟩) (meth := k18m13) (c := k18c13) (by decide +kernel) rfl rfl rfl (by decide +kernel)
set_option maxRecDepth 65536 in
theorem w_c37 : (Jvm.Cond.code ({ cls := "java/lang/StringUTF16", name := "indexOfChar", desc := "([BIII)I" } : Jvm.MethodName) jdk_52_method_47_code (4 : Nat) (Option.some Jvm.ClassFile.FieldType.int)).before args0 about1 = true := code_word (m := ⟨18, 14⟩) (meth := k18m14) (c := k18c14) (by decide +kernel) rfl rfl rfl (by decide +kernel)
set_option maxRecDepth 65536 in
theorem w_c38 : (Jvm.Cond.code ({ cls := "java/lang/StringUTF16", name := "checkBoundsBeginEnd", desc := "(II[B)V" } : Jvm.MethodName) jdk_52_method_93_code (3 : Nat) (Option.none : Option Jvm.ClassFile.FieldType)).before args0 about1 = true := code_word (m := ⟨18, 17⟩) (meth := k18m17) (c := k18c17) (by decide +kernel) rfl rfl rfl (by decide +kernel)
set_option maxRecDepth 65536 in
theorem w_c39 : (Jvm.Cond.code ({ cls := "java/lang/StringUTF16", name := "length", desc := "([B)I" } : Jvm.MethodName) jdk_52_method_6_code (1 : Nat) (Option.some Jvm.ClassFile.FieldType.int)).before args0 about1 = true := code_word (m := ⟨18, 5⟩) (meth := k18m5) (c := k18c5) (by decide +kernel) rfl rfl rfl (by decide +kernel)
set_option maxRecDepth 65536 in
theorem w_c40 : (Jvm.Cond.code ({ cls := "java/lang/String", name := "checkBoundsBeginEnd", desc := "(III)V" } : Jvm.MethodName) jdk_42_method_158_code (3 : Nat) (Option.none : Option Jvm.ClassFile.FieldType)).before args0 about1 = true := code_word (m := ⟨7, 16⟩) (meth := k7m16) (c := k7c16) (by decide +kernel) rfl rfl rfl (by decide +kernel)
set_option maxRecDepth 65536 in
theorem w_c41 : (Jvm.Cond.code ({ cls := "jdk/internal/util/Preconditions", name := "checkFromToIndex", desc := "(IIILjava/util/function/BiFunction;)I" } : Jvm.MethodName) jdk_41_method_12_code (4 : Nat) (Option.some Jvm.ClassFile.FieldType.int)).before args0 about1 = true := code_word (m := ⟨19, 1⟩) (meth := k19m1) (c := k19c1) (by decide +kernel) rfl rfl rfl (by decide +kernel)
set_option maxRecDepth 65536 in
theorem w_c42 : (Jvm.Cond.code ({ cls := "java/lang/StringUTF16", name := "indexOfCharUnsafe", desc := "([BIII)I" } : Jvm.MethodName) jdk_52_method_48_code (5 : Nat) (Option.some Jvm.ClassFile.FieldType.int)).before args0 about1 = true := code_word (m := ⟨18, 15⟩) (meth := k18m15) (c := k18c15) (by decide +kernel) rfl rfl rfl (by decide +kernel)
set_option maxRecDepth 65536 in
theorem w_c43 : (Jvm.Cond.code ({ cls := "java/lang/String", name := "encodeUTF8_UTF16", desc := "([BZ)[B" } : Jvm.MethodName) jdk_42_method_47_code (9 : Nat) (Option.some (Jvm.ClassFile.FieldType.array Jvm.ClassFile.FieldType.byte))).before args0 about1 = true := code_word (m := ⟨7, 4⟩) (meth := k7m4) (c := k7c4) (by decide +kernel) rfl rfl rfl (by decide +kernel)
set_option maxRecDepth 65536 in
theorem w_c44 : (Jvm.Cond.code ({ cls := "java/util/Arrays", name := "copyOf", desc := "([BI)[B" } : Jvm.MethodName) jdk_65_method_121_code (3 : Nat) (Option.some (Jvm.ClassFile.FieldType.array Jvm.ClassFile.FieldType.byte))).before args0 about1 = true := code_word (m := ⟨20, 1⟩) (meth := k20m1) (c := k20c1) (by decide +kernel) rfl rfl rfl (by decide +kernel)
set_option maxRecDepth 65536 in
theorem w_c45 : (Jvm.Cond.code ({ cls := "java/lang/String", name := "valueOf", desc := "(C)Ljava/lang/String;" } : Jvm.MethodName) jdk_42_method_139_code (1 : Nat) (Option.some (Jvm.ClassFile.FieldType.object "java/lang/String"))).before args0 about1 = true := code_word (m := ⟨7, 10⟩) (meth := k7m10) (c := k7c10) (by decide +kernel) rfl rfl rfl (by decide +kernel)
set_option maxRecDepth 65536 in
theorem w_c46 : (Jvm.Cond.code ({ cls := "java/lang/StringLatin1", name := "canEncode", desc := "(C)Z" } : Jvm.MethodName) jdk_43_method_3_code (1 : Nat) (Option.some Jvm.ClassFile.FieldType.boolean)).before args0 about1 = true := code_word (m := ⟨9, 1⟩) (meth := k9m1) (c := k9c1) (by decide +kernel) rfl rfl rfl (by decide +kernel)
set_option maxRecDepth 65536 in
theorem w_c47 : (Jvm.Cond.code ({ cls := "java/lang/StringLatin1", name := "toBytes", desc := "(C)[B" } : Jvm.MethodName) jdk_43_method_46_code (1 : Nat) (Option.some (Jvm.ClassFile.FieldType.array Jvm.ClassFile.FieldType.byte))).before args0 about1 = true := code_word (m := ⟨9, 5⟩) (meth := k9m5) (c := k9c5) (by decide +kernel) rfl rfl rfl (by decide +kernel)
set_option maxRecDepth 65536 in
theorem w_c48 : (Jvm.Cond.code ({ cls := "java/lang/String", name := "<init>", desc := "([BB)V" } : Jvm.MethodName) jdk_42_method_151_code (3 : Nat) (Option.none : Option Jvm.ClassFile.FieldType)).before args0 about1 = true := code_word (m := ⟨7, 12⟩) (meth := k7m12) (c := k7c12) (by decide +kernel) rfl rfl rfl (by decide +kernel)
set_option maxRecDepth 65536 in
theorem w_c49 : (Jvm.Cond.code ({ cls := "java/lang/StringUTF16", name := "toBytes", desc := "(C)[B" } : Jvm.MethodName) jdk_52_method_24_code (2 : Nat) (Option.some (Jvm.ClassFile.FieldType.array Jvm.ClassFile.FieldType.byte))).before args0 about1 = true := code_word (m := ⟨18, 12⟩) (meth := k18m12) (c := k18c12) (by decide +kernel) rfl rfl rfl (by decide +kernel)
set_option maxRecDepth 65536 in
theorem w_c50 : (Jvm.Cond.code ({ cls := "java/lang/String", name := "substring", desc := "(II)Ljava/lang/String;" } : Jvm.MethodName) jdk_42_method_92_code (5 : Nat) (Option.some (Jvm.ClassFile.FieldType.object "java/lang/String"))).before args0 about1 = true := code_word (m := ⟨7, 9⟩) (meth := k7m9) (c := k7c9) (by decide +kernel) rfl rfl rfl (by decide +kernel)
set_option maxRecDepth 65536 in
theorem w_c51 : (Jvm.Cond.code ({ cls := "java/lang/StringUTF16", name := "newString", desc := "([BII)Ljava/lang/String;" } : Jvm.MethodName) jdk_52_method_69_code (5 : Nat) (Option.some (Jvm.ClassFile.FieldType.object "java/lang/String"))).before args0 about1 = true := code_word (m := ⟨18, 16⟩) (meth := k18m16) (c := k18c16) (by decide +kernel) rfl rfl rfl (by decide +kernel)
set_option maxRecDepth 65536 in
theorem w_c52 : (Jvm.Cond.code ({ cls := "java/lang/StringUTF16", name := "compress", desc := "([BII)[B" } : Jvm.MethodName) jdk_52_method_17_code (6 : Nat) (Option.some (Jvm.ClassFile.FieldType.array Jvm.ClassFile.FieldType.byte))).before args0 about1 = true := code_word (m := ⟨18, 9⟩) (meth := k18m9) (c := k18c9) (by decide +kernel) rfl rfl rfl (by decide +kernel)
set_option maxRecDepth 65536 in
theorem w_c53 : (Jvm.Cond.code ({ cls := "java/lang/StringUTF16", name := "compress", desc := "([BI[BII)I" } : Jvm.MethodName) jdk_52_method_22_code (7 : Nat) (Option.some Jvm.ClassFile.FieldType.int)).before args0 about1 = true := code_word (m := ⟨18, 11⟩) (meth := k18m11) (c := k18c11) (by decide +kernel) rfl rfl rfl (by decide +kernel)
set_option maxRecDepth 65536 in
theorem w_c54 : (Jvm.Cond.code ({ cls := "java/lang/StringUTF16", name := "checkBoundsOffCount", desc := "(II[B)V" } : Jvm.MethodName) jdk_52_method_94_code (3 : Nat) (Option.none : Option Jvm.ClassFile.FieldType)).before args0 about1 = true := code_word (m := ⟨18, 18⟩) (meth := k18m18) (c := k18c18) (by decide +kernel) rfl rfl rfl (by decide +kernel)
set_option maxRecDepth 65536 in
theorem w_c55 : (Jvm.Cond.code ({ cls := "java/lang/String", name := "checkBoundsOffCount", desc := "(III)I" } : Jvm.MethodName) jdk_42_method_157_code (3 : Nat) (Option.some Jvm.ClassFile.FieldType.int)).before args0 about1 = true := code_word (m := ⟨7, 15⟩) (meth := k7m15) (c := k7c15) (by decide +kernel) rfl rfl rfl (by decide +kernel)
set_option maxRecDepth 65536 in
theorem w_c56 : (Jvm.Cond.code ({ cls := "jdk/internal/util/Preconditions", name := "checkFromIndexSize", desc := "(IIILjava/util/function/BiFunction;)I" } : Jvm.MethodName) jdk_41_method_13_code (4 : Nat) (Option.some Jvm.ClassFile.FieldType.int)).before args0 about1 = true := code_word (m := ⟨19, 2⟩) (meth := k19m2) (c := k19c2) (by decide +kernel) rfl rfl rfl (by decide +kernel)
set_option maxRecDepth 65536 in
theorem w_c57 : (Jvm.Cond.code ({ cls := "java/util/Arrays", name := "copyOfRange", desc := "([BII)[B" } : Jvm.MethodName) jdk_65_method_132_code (3 : Nat) (Option.some (Jvm.ClassFile.FieldType.array Jvm.ClassFile.FieldType.byte))).before args0 about1 = true := code_word (m := ⟨20, 3⟩) (meth := k20m3) (c := k20c3) (by decide +kernel) rfl rfl rfl (by decide +kernel)
set_option maxRecDepth 65536 in
theorem w_c58 : (Jvm.Cond.code ({ cls := "java/util/Arrays", name := "copyOfRangeByte", desc := "([BII)[B" } : Jvm.MethodName) jdk_65_method_133_code (5 : Nat) (Option.some (Jvm.ClassFile.FieldType.array Jvm.ClassFile.FieldType.byte))).before args0 about1 = true := code_word (m := ⟨20, 4⟩) (meth := k20m4) (c := k20c4) (by decide +kernel) rfl rfl rfl (by decide +kernel)
set_option maxRecDepth 65536 in
theorem w_c59 : (Jvm.Cond.code ({ cls := "java/util/Arrays", name := "checkLength", desc := "(II)V" } : Jvm.MethodName) jdk_65_method_131_code (2 : Nat) (Option.none : Option Jvm.ClassFile.FieldType)).before args0 about1 = true := code_word (m := ⟨20, 2⟩) (meth := k20m2) (c := k20c2) (by decide +kernel) rfl rfl rfl (by decide +kernel)
set_option maxRecDepth 65536 in
theorem w_c60 : (Jvm.Cond.code ({ cls := "java/lang/StringLatin1", name := "newString", desc := "([BII)Ljava/lang/String;" } : Jvm.MethodName) jdk_43_method_47_code (3 : Nat) (Option.some (Jvm.ClassFile.FieldType.object "java/lang/String"))).before args0 about1 = true := code_word (m := ⟨9, 6⟩) (meth := k9m6) (c := k9c6) (by decide +kernel) rfl rfl rfl (by decide +kernel)
def codes1 : List Jvm.Cond := [Jvm.Cond.code x code maxLocals ret, Jvm.Cond.code ({ cls := "holdfast/HashSlotOfPinLaw", name := "draw", desc := "(I)C" } : Jvm.MethodName) method_3_code (2 : Nat) (Option.some Jvm.ClassFile.FieldType.char), Jvm.Cond.code ({ cls := "holdfast/HashSlotOfPinLaw", name := "make", desc := "(ICCCC)Ljava/lang/String;" } : Jvm.MethodName) method_4_code (5 : Nat) (Option.some (Jvm.ClassFile.FieldType.object "java/lang/String")), Jvm.Cond.code ({ cls := "java/lang/String", name := "<init>", desc := "([C)V" } : Jvm.MethodName) jdk_42_method_3_code (2 : Nat) (Option.none : Option Jvm.ClassFile.FieldType), Jvm.Cond.code ({ cls := "java/lang/String", name := "<init>", desc := "([CIILjava/lang/Void;)V" } : Jvm.MethodName) jdk_42_method_149_code (6 : Nat) (Option.none : Option Jvm.ClassFile.FieldType), Jvm.Cond.code ({ cls := "java/lang/Object", name := "<init>", desc := "()V" } : Jvm.MethodName) object_method_1_code (1 : Nat) (Option.none : Option Jvm.ClassFile.FieldType), Jvm.Cond.code ({ cls := "holdfast/HashSlotOfPinLaw", name := "find", desc := "([CICI)I" } : Jvm.MethodName) method_5_code (4 : Nat) (Option.some Jvm.ClassFile.FieldType.int), Jvm.Cond.code ({ cls := "holdfast/HashSlotOfPinLaw", name := "at", desc := "(I[CIII)I" } : Jvm.MethodName) method_6_code (5 : Nat) (Option.some Jvm.ClassFile.FieldType.int), Jvm.Cond.code ({ cls := "holdfast/HashSlot", name := "of", desc := "(Ljava/lang/String;)I" } : Jvm.MethodName) prog_2_method_2_code (7 : Nat) (Option.some Jvm.ClassFile.FieldType.int), Jvm.Cond.code ({ cls := "holdfast/HashSlot", name := "hashPart", desc := "(Ljava/lang/String;)Ljava/lang/String;" } : Jvm.MethodName) prog_2_method_7_code (2 : Nat) (Option.some (Jvm.ClassFile.FieldType.object "java/lang/String")), Jvm.Cond.code ({ cls := "holdfast/HashSlot", name := "tag", desc := "(Ljava/lang/String;)Ljava/lang/String;" } : Jvm.MethodName) prog_2_method_8_code (3 : Nat) (Option.some (Jvm.ClassFile.FieldType.object "java/lang/String")), Jvm.Cond.code ({ cls := "java/lang/String", name := "indexOf", desc := "(I)I" } : Jvm.MethodName) jdk_42_method_79_code (2 : Nat) (Option.some Jvm.ClassFile.FieldType.int), Jvm.Cond.code ({ cls := "java/lang/String", name := "indexOf", desc := "(II)I" } : Jvm.MethodName) jdk_42_method_80_code (3 : Nat) (Option.some Jvm.ClassFile.FieldType.int), Jvm.Cond.code ({ cls := "java/lang/String", name := "isLatin1", desc := "()Z" } : Jvm.MethodName) jdk_42_method_154_code (1 : Nat) (Option.some Jvm.ClassFile.FieldType.boolean), Jvm.Cond.code ({ cls := "java/lang/String", name := "length", desc := "()I" } : Jvm.MethodName) jdk_42_method_54_code (1 : Nat) (Option.some Jvm.ClassFile.FieldType.int), Jvm.Cond.code ({ cls := "java/lang/String", name := "coder", desc := "()B" } : Jvm.MethodName) jdk_42_method_152_code (1 : Nat) (Option.some Jvm.ClassFile.FieldType.byte), Jvm.Cond.code ({ cls := "java/lang/StringLatin1", name := "indexOf", desc := "([BIII)I" } : Jvm.MethodName) jdk_43_method_22_code (4 : Nat) (Option.some Jvm.ClassFile.FieldType.int), Jvm.Cond.code ({ cls := "java/lang/StringLatin1", name := "canEncode", desc := "(I)Z" } : Jvm.MethodName) jdk_43_method_4_code (1 : Nat) (Option.some Jvm.ClassFile.FieldType.boolean), Jvm.Cond.code ({ cls := "java/lang/Math", name := "max", desc := "(II)I" } : Jvm.MethodName) jdk_29_method_65_code (2 : Nat) (Option.some Jvm.ClassFile.FieldType.int), Jvm.Cond.code ({ cls := "java/lang/Math", name := "min", desc := "(II)I" } : Jvm.MethodName) jdk_29_method_69_code (2 : Nat) (Option.some Jvm.ClassFile.FieldType.int), Jvm.Cond.code ({ cls := "java/lang/String", name := "getBytes", desc := "(Ljava/nio/charset/Charset;)[B" } : Jvm.MethodName) jdk_42_method_64_code (2 : Nat) (Option.some (Jvm.ClassFile.FieldType.array Jvm.ClassFile.FieldType.byte)), Jvm.Cond.code ({ cls := "java/lang/String", name := "encode", desc := "(Ljava/nio/charset/Charset;B[B)[B" } : Jvm.MethodName) jdk_42_method_18_code (3 : Nat) (Option.some (Jvm.ClassFile.FieldType.array Jvm.ClassFile.FieldType.byte)), Jvm.Cond.code ({ cls := "java/lang/String", name := "encodeUTF8", desc := "(B[BZ)[B" } : Jvm.MethodName) jdk_42_method_46_code (9 : Nat) (Option.some (Jvm.ClassFile.FieldType.array Jvm.ClassFile.FieldType.byte)), Jvm.Cond.code ({ cls := "java/lang/StringCoding", name := "hasNegatives", desc := "([BII)Z" } : Jvm.MethodName) jdk_123_method_2_code (3 : Nat) (Option.some Jvm.ClassFile.FieldType.boolean), Jvm.Cond.code ({ cls := "java/lang/StringCoding", name := "countPositives", desc := "([BII)I" } : Jvm.MethodName) jdk_123_method_3_code (5 : Nat) (Option.some Jvm.ClassFile.FieldType.int), Jvm.Cond.code ({ cls := "java/lang/StringUTF16", name := "compress", desc := "([CII)[B" } : Jvm.MethodName) jdk_52_method_16_code (6 : Nat) (Option.some (Jvm.ClassFile.FieldType.array Jvm.ClassFile.FieldType.byte)), Jvm.Cond.code ({ cls := "java/lang/StringUTF16", name := "compress", desc := "([CI[BII)I" } : Jvm.MethodName) jdk_52_method_21_code (7 : Nat) (Option.some Jvm.ClassFile.FieldType.int), Jvm.Cond.code ({ cls := "java/lang/StringUTF16", name := "coderFromArrayLen", desc := "([BI)B" } : Jvm.MethodName) jdk_52_method_15_code (2 : Nat) (Option.some Jvm.ClassFile.FieldType.byte), Jvm.Cond.code ({ cls := "holdfast/HashSlotOfPinLaw", name := "feedChar", desc := "(IC)I" } : Jvm.MethodName) method_7_code (4 : Nat) (Option.some Jvm.ClassFile.FieldType.int), Jvm.Cond.code ({ cls := "holdfast/HashSlotOfPinLaw", name := "step", desc := "(II)I" } : Jvm.MethodName) method_8_code (3 : Nat) (Option.some Jvm.ClassFile.FieldType.int), Jvm.Cond.code ({ cls := "java/lang/StringLatin1", name := "indexOfChar", desc := "([BIII)I" } : Jvm.MethodName) jdk_43_method_23_code (6 : Nat) (Option.some Jvm.ClassFile.FieldType.int), Jvm.Cond.code ({ cls := "java/lang/StringUTF16", name := "toBytes", desc := "([CII)[B" } : Jvm.MethodName) jdk_52_method_14_code (5 : Nat) (Option.some (Jvm.ClassFile.FieldType.array Jvm.ClassFile.FieldType.byte)), Jvm.Cond.code ({ cls := "java/lang/StringUTF16", name := "newBytesFor", desc := "(I)[B" } : Jvm.MethodName) jdk_52_method_2_code (1 : Nat) (Option.some (Jvm.ClassFile.FieldType.array Jvm.ClassFile.FieldType.byte)), Jvm.Cond.code ({ cls := "java/lang/StringUTF16", name := "newBytesLength", desc := "(I)I" } : Jvm.MethodName) jdk_52_method_3_code (1 : Nat) (Option.some Jvm.ClassFile.FieldType.int), Jvm.Cond.code ({ cls := "java/lang/StringUTF16", name := "putChar", desc := "([BII)V" } : Jvm.MethodName) jdk_52_method_4_code (3 : Nat) (Option.none : Option Jvm.ClassFile.FieldType), Jvm.Cond.code ({ cls := "java/lang/StringUTF16", name := "getChar", desc := "([BI)C" } : Jvm.MethodName) jdk_52_method_5_code (2 : Nat) (Option.some Jvm.ClassFile.FieldType.char), Jvm.Cond.code ({ cls := "java/lang/StringUTF16", name := "indexOf", desc := "([BIII)I" } : Jvm.MethodName) jdk_52_method_40_code (4 : Nat) (Option.some Jvm.ClassFile.FieldType.int), Jvm.Cond.code ({ cls := "java/lang/StringUTF16", name := "indexOfChar", desc := "([BIII)I" } : Jvm.MethodName) jdk_52_method_47_code (4 : Nat) (Option.some Jvm.ClassFile.FieldType.int), Jvm.Cond.code ({ cls := "java/lang/StringUTF16", name := "checkBoundsBeginEnd", desc := "(II[B)V" } : Jvm.MethodName) jdk_52_method_93_code (3 : Nat) (Option.none : Option Jvm.ClassFile.FieldType), Jvm.Cond.code ({ cls := "java/lang/StringUTF16", name := "length", desc := "([B)I" } : Jvm.MethodName) jdk_52_method_6_code (1 : Nat) (Option.some Jvm.ClassFile.FieldType.int), Jvm.Cond.code ({ cls := "java/lang/String", name := "checkBoundsBeginEnd", desc := "(III)V" } : Jvm.MethodName) jdk_42_method_158_code (3 : Nat) (Option.none : Option Jvm.ClassFile.FieldType), Jvm.Cond.code ({ cls := "jdk/internal/util/Preconditions", name := "checkFromToIndex", desc := "(IIILjava/util/function/BiFunction;)I" } : Jvm.MethodName) jdk_41_method_12_code (4 : Nat) (Option.some Jvm.ClassFile.FieldType.int), Jvm.Cond.code ({ cls := "java/lang/StringUTF16", name := "indexOfCharUnsafe", desc := "([BIII)I" } : Jvm.MethodName) jdk_52_method_48_code (5 : Nat) (Option.some Jvm.ClassFile.FieldType.int), Jvm.Cond.code ({ cls := "java/lang/String", name := "encodeUTF8_UTF16", desc := "([BZ)[B" } : Jvm.MethodName) jdk_42_method_47_code (9 : Nat) (Option.some (Jvm.ClassFile.FieldType.array Jvm.ClassFile.FieldType.byte)), Jvm.Cond.code ({ cls := "java/util/Arrays", name := "copyOf", desc := "([BI)[B" } : Jvm.MethodName) jdk_65_method_121_code (3 : Nat) (Option.some (Jvm.ClassFile.FieldType.array Jvm.ClassFile.FieldType.byte)), Jvm.Cond.code ({ cls := "java/lang/String", name := "valueOf", desc := "(C)Ljava/lang/String;" } : Jvm.MethodName) jdk_42_method_139_code (1 : Nat) (Option.some (Jvm.ClassFile.FieldType.object "java/lang/String")), Jvm.Cond.code ({ cls := "java/lang/StringLatin1", name := "canEncode", desc := "(C)Z" } : Jvm.MethodName) jdk_43_method_3_code (1 : Nat) (Option.some Jvm.ClassFile.FieldType.boolean), Jvm.Cond.code ({ cls := "java/lang/StringLatin1", name := "toBytes", desc := "(C)[B" } : Jvm.MethodName) jdk_43_method_46_code (1 : Nat) (Option.some (Jvm.ClassFile.FieldType.array Jvm.ClassFile.FieldType.byte)), Jvm.Cond.code ({ cls := "java/lang/String", name := "<init>", desc := "([BB)V" } : Jvm.MethodName) jdk_42_method_151_code (3 : Nat) (Option.none : Option Jvm.ClassFile.FieldType), Jvm.Cond.code ({ cls := "java/lang/StringUTF16", name := "toBytes", desc := "(C)[B" } : Jvm.MethodName) jdk_52_method_24_code (2 : Nat) (Option.some (Jvm.ClassFile.FieldType.array Jvm.ClassFile.FieldType.byte)), Jvm.Cond.code ({ cls := "java/lang/String", name := "substring", desc := "(II)Ljava/lang/String;" } : Jvm.MethodName) jdk_42_method_92_code (5 : Nat) (Option.some (Jvm.ClassFile.FieldType.object "java/lang/String")), Jvm.Cond.code ({ cls := "java/lang/StringUTF16", name := "newString", desc := "([BII)Ljava/lang/String;" } : Jvm.MethodName) jdk_52_method_69_code (5 : Nat) (Option.some (Jvm.ClassFile.FieldType.object "java/lang/String")), Jvm.Cond.code ({ cls := "java/lang/StringUTF16", name := "compress", desc := "([BII)[B" } : Jvm.MethodName) jdk_52_method_17_code (6 : Nat) (Option.some (Jvm.ClassFile.FieldType.array Jvm.ClassFile.FieldType.byte)), Jvm.Cond.code ({ cls := "java/lang/StringUTF16", name := "compress", desc := "([BI[BII)I" } : Jvm.MethodName) jdk_52_method_22_code (7 : Nat) (Option.some Jvm.ClassFile.FieldType.int), Jvm.Cond.code ({ cls := "java/lang/StringUTF16", name := "checkBoundsOffCount", desc := "(II[B)V" } : Jvm.MethodName) jdk_52_method_94_code (3 : Nat) (Option.none : Option Jvm.ClassFile.FieldType), Jvm.Cond.code ({ cls := "java/lang/String", name := "checkBoundsOffCount", desc := "(III)I" } : Jvm.MethodName) jdk_42_method_157_code (3 : Nat) (Option.some Jvm.ClassFile.FieldType.int), Jvm.Cond.code ({ cls := "jdk/internal/util/Preconditions", name := "checkFromIndexSize", desc := "(IIILjava/util/function/BiFunction;)I" } : Jvm.MethodName) jdk_41_method_13_code (4 : Nat) (Option.some Jvm.ClassFile.FieldType.int), Jvm.Cond.code ({ cls := "java/util/Arrays", name := "copyOfRange", desc := "([BII)[B" } : Jvm.MethodName) jdk_65_method_132_code (3 : Nat) (Option.some (Jvm.ClassFile.FieldType.array Jvm.ClassFile.FieldType.byte)), Jvm.Cond.code ({ cls := "java/util/Arrays", name := "copyOfRangeByte", desc := "([BII)[B" } : Jvm.MethodName) jdk_65_method_133_code (5 : Nat) (Option.some (Jvm.ClassFile.FieldType.array Jvm.ClassFile.FieldType.byte)), Jvm.Cond.code ({ cls := "java/util/Arrays", name := "checkLength", desc := "(II)V" } : Jvm.MethodName) jdk_65_method_131_code (2 : Nat) (Option.none : Option Jvm.ClassFile.FieldType), Jvm.Cond.code ({ cls := "java/lang/StringLatin1", name := "newString", desc := "([BII)Ljava/lang/String;" } : Jvm.MethodName) jdk_43_method_47_code (3 : Nat) (Option.some (Jvm.ClassFile.FieldType.object "java/lang/String"))]
set_option maxRecDepth 65536 in
theorem codes_eq : words1.filter isCode = codes1 := rfl
theorem w_codes : ∀ c ∈ words1.filter isCode, c.before args0 about1 = true := by
  rw [codes_eq]
  intro c hc
  simp only [codes1, List.mem_cons, List.not_mem_nil, or_false] at hc
  rcases hc with rfl | rfl | rfl | rfl | rfl | rfl | rfl | rfl | rfl | rfl | rfl | rfl | rfl | rfl | rfl | rfl | rfl | rfl | rfl | rfl | rfl | rfl | rfl | rfl | rfl | rfl | rfl | rfl | rfl | rfl | rfl | rfl | rfl | rfl | rfl | rfl | rfl | rfl | rfl | rfl | rfl | rfl | rfl | rfl | rfl | rfl | rfl | rfl | rfl | rfl | rfl | rfl | rfl | rfl | rfl | rfl | rfl | rfl | rfl | rfl | rfl
  · exact w_c0
  · exact w_c1
  · exact w_c2
  · exact w_c3
  · exact w_c4
  · exact w_c5
  · exact w_c6
  · exact w_c7
  · exact w_c8
  · exact w_c9
  · exact w_c10
  · exact w_c11
  · exact w_c12
  · exact w_c13
  · exact w_c14
  · exact w_c15
  · exact w_c16
  · exact w_c17
  · exact w_c18
  · exact w_c19
  · exact w_c20
  · exact w_c21
  · exact w_c22
  · exact w_c23
  · exact w_c24
  · exact w_c25
  · exact w_c26
  · exact w_c27
  · exact w_c28
  · exact w_c29
  · exact w_c30
  · exact w_c31
  · exact w_c32
  · exact w_c33
  · exact w_c34
  · exact w_c35
  · exact w_c36
  · exact w_c37
  · exact w_c38
  · exact w_c39
  · exact w_c40
  · exact w_c41
  · exact w_c42
  · exact w_c43
  · exact w_c44
  · exact w_c45
  · exact w_c46
  · exact w_c47
  · exact w_c48
  · exact w_c49
  · exact w_c50
  · exact w_c51
  · exact w_c52
  · exact w_c53
  · exact w_c54
  · exact w_c55
  · exact w_c56
  · exact w_c57
  · exact w_c58
  · exact w_c59
  · exact w_c60
set_option maxRecDepth 65536 in
theorem w_t1 : (words1.take 24).all (fun c => isCode c || c.before args0 about1) = true := by decide +kernel
set_option maxRecDepth 65536 in
theorem w_t2 : ((words1.drop 24).take 24).all (fun c => isCode c || c.before args0 about1) = true := by decide +kernel
set_option maxRecDepth 65536 in
theorem w_t3 : (((words1.drop 24).drop 24).take 24).all (fun c => isCode c || c.before args0 about1) = true := by decide +kernel
set_option maxRecDepth 65536 in
theorem w_t4 : ((((words1.drop 24).drop 24).drop 24).take 24).all (fun c => isCode c || c.before args0 about1) = true := by decide +kernel
set_option maxRecDepth 65536 in
theorem w_t5 : (((((words1.drop 24).drop 24).drop 24).drop 24).take 24).all (fun c => isCode c || c.before args0 about1) = true := by decide +kernel
set_option maxRecDepth 65536 in
theorem w_t6 : ((((((words1.drop 24).drop 24).drop 24).drop 24).drop 24).take 24).all (fun c => isCode c || c.before args0 about1) = true := by decide +kernel
set_option maxRecDepth 65536 in
theorem w_t7 : (((((((words1.drop 24).drop 24).drop 24).drop 24).drop 24).drop 24).take 24).all (fun c => isCode c || c.before args0 about1) = true := by decide +kernel
set_option maxRecDepth 65536 in
theorem w_t8 : ((((((((words1.drop 24).drop 24).drop 24).drop 24).drop 24).drop 24).drop 24).take 24).all (fun c => isCode c || c.before args0 about1) = true := by decide +kernel
set_option maxRecDepth 65536 in
theorem w_t9 : (((((((((words1.drop 24).drop 24).drop 24).drop 24).drop 24).drop 24).drop 24).drop 24).take 24).all (fun c => isCode c || c.before args0 about1) = true := by decide +kernel
set_option maxRecDepth 65536 in
theorem w_t10 : ((((((((((words1.drop 24).drop 24).drop 24).drop 24).drop 24).drop 24).drop 24).drop 24).drop 24).take 24).all (fun c => isCode c || c.before args0 about1) = true := by decide +kernel
set_option maxRecDepth 65536 in
theorem w_t11 : ((((((((((words1.drop 24).drop 24).drop 24).drop 24).drop 24).drop 24).drop 24).drop 24).drop 24).drop 24).all (fun c => isCode c || c.before args0 about1) = true := by decide +kernel
theorem w_tables : (allAtoms (Jvm.Cond.code x code maxLocals ret :: tables_1)).before args0 about1 = true := by
  rw [allAtoms_all]
  show words1.all (fun c => c.before args0 about1) = true
  refine all_split ?_ w_codes
  rw [← List.take_append_drop 24 words1, List.all_append, w_t1, ← List.take_append_drop 24 (words1.drop 24), List.all_append, w_t2, ← List.take_append_drop 24 ((words1.drop 24).drop 24), List.all_append, w_t3, ← List.take_append_drop 24 (((words1.drop 24).drop 24).drop 24), List.all_append, w_t4, ← List.take_append_drop 24 ((((words1.drop 24).drop 24).drop 24).drop 24), List.all_append, w_t5, ← List.take_append_drop 24 (((((words1.drop 24).drop 24).drop 24).drop 24).drop 24), List.all_append, w_t6, ← List.take_append_drop 24 ((((((words1.drop 24).drop 24).drop 24).drop 24).drop 24).drop 24), List.all_append, w_t7, ← List.take_append_drop 24 (((((((words1.drop 24).drop 24).drop 24).drop 24).drop 24).drop 24).drop 24), List.all_append, w_t8, ← List.take_append_drop 24 ((((((((words1.drop 24).drop 24).drop 24).drop 24).drop 24).drop 24).drop 24).drop 24), List.all_append, w_t9, ← List.take_append_drop 24 (((((((((words1.drop 24).drop 24).drop 24).drop 24).drop 24).drop 24).drop 24).drop 24).drop 24), List.all_append, w_t10, w_t11]
  rfl
set_option maxRecDepth 65536 in
theorem w_rest : rest_1_c.before args0 about1 = true := by decide +kernel
set_option maxRecDepth 65536 in
theorem w_case : (Jvm.Cond.and given_1 narrow_1).before args0 about1 = true := by decide +kernel
set_option maxRecDepth 65536 in
theorem w_consts : constsHeld consts_1 about1 := Jvm.Lit.constsHeldB_iff.mp (by decide +kernel)
theorem w_applies : (headSpec (Jvm.Cond.code x code maxLocals ret :: tables_1) room_1).applies x e0.platform about1 = true :=
  (Spec.applies_iff w_frames).mpr ⟨w_running, w_runnable, w_alone, w_named, w_hears, w_ripe, w_room, w_tables⟩
theorem atStart : AtStart classFile x code maxLocals ret World_1 tables_1 room_1 Calls_1 rest_1 Pre_1 launch0 p0 e0 about1 theMethod args0 below0 :=
  ⟨lists_1, trivial, launch0.admits_env _ _ _, launch0.least_env, fairChoices_fair.cas, fairChoices_fair.clock, w_frames, w_args, w_heap, w_applies, ⟨w_consts, trivial⟩, w_rest, w_case⟩
end start1
theorem witness_1 : WitnessClaimed_1 := ⟨start1.p0, start1.e0, start1.about1, start1.theMethod, start1.args0, start1.below0, start1.atStart⟩
end Jvm.Pilot.@@N@@
