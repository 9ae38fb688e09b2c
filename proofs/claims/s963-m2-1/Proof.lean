import JvmDerived
import JvmDerived.Pilot.@@N@@Statement
import JvmDerived.Pilot.@@N@@Code
set_option linter.unusedVariables false
set_option linter.unusedSimpArgs false
namespace Jvm.Pilot.@@N@@.Kw
open Jvm Jvm.ClassFile Sem Op Lib Jvm.Free Jvm.Stand Jvm.LawKit Jvm.RoadKit Bundle
/-! ## a walk by weakest preconditions over the road kit's family: the state, the tables and the intern table are hidden; what is seen is the heap, the own cells W, the room used, pc, locals, stack -/
abbrev Mth := MethodName × ByteArray × Nat × Option FieldType
def Cx (M : Mth) (p : Program) (meth : Method) (c : Code) : Prop := p.tables.exec = Jvm.exec ∧ c.code = M.2.1 ∧ c.maxLocals = M.2.2.1 ∧ meth.sig.returnType = M.2.2.2 ∧ meth.locks = false ∧ meth.name = M.1.name
def Own (Z : State) (EL : List (String × Nat)) (vm : Vm) (h : Heap) (W : List Addr) : Prop := ∀ a ∈ W, Z.heap.size ≤ a ∧ a < h.size ∧ Safe Z EL vm h a
def Hid (l : Launch) (Z : State) (EL : List (String × Nat)) (M : Mth) (R : Room) (p : Program) (e : Env) (s : State) (m : MethodId) (args : Array Value) (below : List Frame) (meth : Method) (c : Code) (T : State) (vm0 : Vm) (h : Heap) (W : List Addr) (k n : Nat) : Prop :=
  ∃ locs k0, Stand p l e R (s.setVm vm0) m args below meth c T locs k n ∧ T.heap = h ∧ s.Since vm0 k0 ∧ k0 ≤ h.size ∧ Z.Warmed39 vm0 ∧ vm0.findClass M.1.cls = some m.cls ∧ CHr Z EL s.vm s.heap vm0 h ∧ Fr Z.heap.size locs ∧ Own Z EL vm0 h W ∧ k ≤ R.cells ∧ n ≤ R.slots ∧ Ext Z.heap h ∧ (EL = [] → s.WarmedH vm0) ∧ ∃ a0, EW Z a0 EL
def Done (Z : State) (EL : List (String × Nat)) (R : Room) (p : Program) (e : Env) (s : State) (below : List Frame) (S : State) (Q : Option Value → Heap → List Addr → Prop) : Prop :=
  ∃ s₂ v L Wo, Steps p.tables e below S s₂ ∧ s₂.status = .running ∧ Ended s₂ below (.returned v) ∧ Q v s₂.heap Wo ∧ Own Z EL s₂.vm s₂.heap Wo ∧ Fr Z.heap.size L ∧ CHr Z EL s.vm s.heap s₂.vm s₂.heap ∧ Ext Z.heap s₂.heap ∧ (EL = [] → s.WarmedH s₂.vm) ∧ ReturnedEndW s (.returned v) s₂ L R.cells R.slots
def Wx (l : Launch) (Z : State) (EL : List (String × Nat)) (M : Mth) (R : Room) (h : Heap) (W : List Addr) (k n pc : Nat) (Ls : Array Slot) (st : List Value) (Q : Option Value → Heap → List Addr → Prop) : Prop :=
  ∀ p e s m args below meth c, Cx M p meth c → ∀ T vm0, Hid l Z EL M R p e s m args below meth c T vm0 h W k n → Done Z EL R p e s below (T.setTop (mkF m pc Ls st)) Q
abbrev Wp (l : Launch) (Z : State) (EL : List (String × Nat)) (M : Mth) (R : Room) (h : Heap) (W : List Addr) (k n pc : Nat) (Ls : Array Slot) (st : List Value) (Q : Option Value → Heap → Prop) : Prop := Wx l Z EL M R h W k n pc Ls st (fun v h' _ => Q v h')
def CxW (ws : List Jvm.Cond) (l : Launch) (Z : State) (EL : List (String × Nat)) (M : Mth) (rm : Room) (as : Array Value) (h : Heap) (W : List Addr) (Q : Option Value → Heap → List Addr → Prop) : Prop :=
  MetFree l M.1 (head1 (Jvm.Cond.code M.1 M.2.1 M.2.2.1 M.2.2.2 :: ws) rm) (fun a U => a = as ∧ Z.Warmed39 U.vm ∧ U.heap = h ∧ CHv Z EL U.vm h ∧ Own Z EL U.vm h W ∧ Ext Z.heap h) (fun _ _ _ _ _ => True)
    (fun _ U o U' => ∃ v L Wo, o = .returned v ∧ Q v U'.heap Wo ∧ Own Z EL U'.vm U'.heap Wo ∧ Fr Z.heap.size L ∧ CHr Z EL U.vm U.heap U'.vm U'.heap ∧ Ext Z.heap U'.heap ∧ (EL = [] → U.WarmedH U'.vm) ∧ ReturnedEndW U o U' L rm.cells rm.slots)
abbrev CtW (ws : List Jvm.Cond) (l : Launch) (Z : State) (EL : List (String × Nat)) (M : Mth) (rm : Room) (as : Array Value) (h : Heap) (W : List Addr) (Q : Option Value → Heap → Prop) : Prop := CxW ws l Z EL M rm as h W (fun v h' _ => Q v h')
abbrev Ct := CtW []
abbrev Ct3 := CxW []
theorem Done.pre {Z : State} {EL : List (String × Nat)} {R : Room} {p : Program} {e : Env} {s : State} {below : List Frame} {S S' : State} {Q : Option Value → Heap → List Addr → Prop} (st : ∀ t, Steps p.tables e below S' t → Steps p.tables e below S t) (D : Done Z EL R p e s below S' Q) : Done Z EL R p e s below S Q := by
  obtain ⟨s₂, v, L, Wo, h1, r⟩ := D
  exact ⟨s₂, v, L, Wo, st _ h1, r⟩
section Steps
variable {l : Launch} {Z : State} {EL : List (String × Nat)} {M : Mth} {R : Room} {h : Heap} {W : List Addr} {k n pc : Nat} {Ls : Array Slot} {st : List Value} {Q : Option Value → Heap → List Addr → Prop} {a0 : Array Value}
/-! ### entering -/
theorem Own.nil {vm : Vm} : Own Z EL vm h [] := fun _ q => nomatch q
theorem Ct.of_wp {ws : List Jvm.Cond} {rm : Room} {as : Array Value} (hp : plainFor M.1 = true) (hEL : EW Z a0 EL) (hls : Jvm.Sym.laidSlots as.toList ++ List.replicate (M.2.2.1 - (Jvm.Sym.laidSlots as.toList).length) .unset = Ls.toList) (K : Wx l Z EL M rm h W 0 0 0 Ls [] Q) : CxW ws l Z EL M rm as h W Q := by
  refine MetFree.of_bodySF hp hisR ?_
  intro p e s m args below meth c s₁ Bd hml0 hP hK
  obtain ⟨rfl, hZ, hh, hC, hO, hX⟩ := hP
  have X0 : Stand p l e rm s m args below meth c s₁ [] 0 0 := Stand.of_body Bd
  have e0 : s₁.heap = h := by rw [← hh, Bd.state]; rfl
  obtain ⟨s₂, v, L, Wo, h1, h2, h3, h4, h5, h6, h7, h8⟩ := K p e s m args below meth c ⟨Bd.exec, Bd.bytes, hml0, Bd.returns, Bd.notSynchronized, (name_of_methodNamed Bd.named Bd.method).1⟩ s₁ s.vm
    ⟨[], 0, X0, e0, (State.WarmedH.refl s).since _, Nat.zero_le _, hZ, findClass_of_methodNamed Bd.named, by rw [hh]; exact CHr.refl hC, Fr.nil _, hO, Nat.zero_le _, Nat.zero_le _, hX, fun _ => State.WarmedH.refl s, a0, hEL⟩
  exact ⟨s₂, _, (Jvm.Free.XT.entry hls).trans h1, h2, h3, v, L, Wo, rfl, h4, h5, h6, h7, h8⟩
/-! ### plain steps -/
theorem Wp.pure {pc' : Nat} {Ls' : Array Slot} {st' : List Value} (hs : ∀ {tb : Tables} [Ours tb] {e : Env} {below : List Frame} {T : State} {m : MethodId} {c : Code} {target : State}, At T m c below → tb.exec = Jvm.exec → c.code = M.2.1 → Steps tb e below (T.setTop (mkF m pc' Ls' st')) target → Steps tb e below (T.setTop (mkF m pc Ls st)) target)
    (K : Wx l Z EL M R h W k n pc' Ls' st' Q) : Wx l Z EL M R h W k n pc Ls st Q := by
  intro p e s m args below meth c hc T vm0 H
  obtain ⟨locs, k0, X, r⟩ := id H
  exact (K p e s m args below meth c hc T vm0 H).pre fun t q => hs X.here hc.1 hc.2.1 q
def ush (x y : Int32) : Int32 := (x.toUInt32 >>> (y &&& 31).toUInt32).toInt32
def c16 (x : Int32) : Int32 := x.toUInt32.toUInt16.toUInt32.toInt32
def lo8 (x : Int32) : Int32 := x.toInt8.toInt32
def nx (len need pc : Nat) (Ls : Array Slot) (st : List Value) : Option (Nat × Array Slot × List Value) := if len = need then some (pc + need, Ls, st) else none
def ld1 (Ls : Array Slot) (i : Nat) : Option Value := match Ls[i]? with | some (.val v) => some v | _ => none
def isI : Value → Bool | .int _ => true | _ => false
def isL : Value → Bool | .long _ => true | _ => false
def ldv (P : Value → Bool) (need len pc : Nat) (Ls : Array Slot) (st : List Value) (i : Nat) : Option (Nat × Array Slot × List Value) := match ld1 Ls i with | some v => if P v = true then nx len need pc Ls (v :: st) else none | none => none
def stv (P : Value → Bool) (need len pc : Nat) (Ls : Array Slot) (st : List Value) (i : Nat) : Option (Nat × Array Slot × List Value) := match st with | v :: r => (if P v = true then (match storeLocals Ls i v with | some l' => nx len need pc l' r | none => none) else none) | [] => none
def i2 (f : Int32 → Int32 → Int32) (len pc : Nat) (Ls : Array Slot) (st : List Value) : Option (Nat × Array Slot × List Value) := match st with | .int y :: .int x :: r => nx len 1 pc Ls (.int (f x y) :: r) | _ => none
def l2 (f : Int64 → Int64 → Int64) (len pc : Nat) (Ls : Array Slot) (st : List Value) : Option (Nat × Array Slot × List Value) := match st with | .long y :: .long x :: r => nx len 1 pc Ls (.long (f x y) :: r) | _ => none
def li2 (f : Int64 → Int32 → Int64) (len pc : Nat) (Ls : Array Slot) (st : List Value) : Option (Nat × Array Slot × List Value) := match st with | .int y :: .long x :: r => nx len 1 pc Ls (.long (f x y) :: r) | _ => none
def i1 (f : Int32 → Value) (len pc : Nat) (Ls : Array Slot) (st : List Value) : Option (Nat × Array Slot × List Value) := match st with | .int x :: r => nx len 1 pc Ls (f x :: r) | _ => none
def l1 (f : Int64 → Value) (len pc : Nat) (Ls : Array Slot) (st : List Value) : Option (Nat × Array Slot × List Value) := match st with | .long x :: r => nx len 1 pc Ls (f x :: r) | _ => none
def stepS (i : Instr) (len pc : Nat) (Ls : Array Slot) (st : List Value) : Option (Nat × Array Slot × List Value) :=
  match i with
  | .aload_n k => ldv Value.isRef 1 len pc Ls st k.val
  | .aload k => ldv Value.isRef 2 len pc Ls st k
  | .iload_n k => ldv isI 1 len pc Ls st k.val
  | .iload k => ldv isI 2 len pc Ls st k
  | .lload_n k => ldv isL 1 len pc Ls st k.val
  | .lload k => ldv isL 2 len pc Ls st k
  | .astore_n k => stv Value.isRef 1 len pc Ls st k.val
  | .astore k => stv Value.isRef 2 len pc Ls st k
  | .istore_n k => stv isI 1 len pc Ls st k.val
  | .istore k => stv isI 2 len pc Ls st k
  | .lstore_n k => stv isL 1 len pc Ls st k.val
  | .lstore k => stv isL 2 len pc Ls st k
  | .iconst i => nx len 1 pc Ls (.int (Int32.ofInt i) :: st)
  | .lconst k => nx len 1 pc Ls (.long (Int64.ofNat k) :: st)
  | .bipush i => nx len 2 pc Ls (.int (Int8.ofInt i).toInt32 :: st)
  | .sipush i => nx len 3 pc Ls (.int (Int16.ofInt i).toInt32 :: st)
  | .aconst_null => nx len 1 pc Ls (.null :: st)
  | .iadd => i2 (· + ·) len pc Ls st
  | .isub => i2 (· - ·) len pc Ls st
  | .imul => i2 (· * ·) len pc Ls st
  | .iand => i2 (· &&& ·) len pc Ls st
  | .ior => i2 (· ||| ·) len pc Ls st
  | .ixor => i2 (· ^^^ ·) len pc Ls st
  | .ishl => i2 (fun x y => x <<< (y &&& 31)) len pc Ls st
  | .ishr => i2 (fun x y => x >>> (y &&& 31)) len pc Ls st
  | .iushr => i2 ush len pc Ls st
  | .ladd => l2 (· + ·) len pc Ls st
  | .lsub => l2 (· - ·) len pc Ls st
  | .lmul => l2 (· * ·) len pc Ls st
  | .land => l2 (· &&& ·) len pc Ls st
  | .lor => l2 (· ||| ·) len pc Ls st
  | .lshl => li2 (fun x y => x <<< (y.toInt64 &&& 63)) len pc Ls st
  | .lushr => li2 (fun x y => Jvm.Free.XT.ushrL x y) len pc Ls st
  | .lcmp => (match st with | .long y :: .long x :: r => nx len 1 pc Ls (.int (Jvm.Free.XT.cmpL x y) :: r) | _ => none)
  | .ineg => i1 (fun x => .int (-x)) len pc Ls st
  | .lneg => l1 (fun x => .long (-x)) len pc Ls st
  | .i2l => i1 (fun x => .long x.toInt64) len pc Ls st
  | .l2i => l1 (fun x => .int x.toInt32) len pc Ls st
  | .i2b => i1 (fun x => .int (lo8 x)) len pc Ls st
  | .i2c => i1 (fun x => .int (c16 x)) len pc Ls st
  | .i2s => i1 (fun x => .int x.toInt16.toInt32) len pc Ls st
  | .dup => (match st with | x :: r => (if x.category = 1 then nx len 1 pc Ls (x :: x :: r) else none) | _ => none)
  | .dup_x1 => (match st with | x :: y :: r => (if x.category = 1 ∧ y.category = 1 then nx len 1 pc Ls (x :: y :: x :: r) else none) | _ => none)
  | .dup2 => (match st with | x :: y :: r => (if x.category = 1 ∧ y.category = 1 then nx len 1 pc Ls (x :: y :: x :: y :: r) else none) | _ => none)
  | .pop => (match st with | x :: r => (if x.category = 1 then nx len 1 pc Ls r else none) | _ => none)
  | .iinc k cst => (match ld1 Ls k with | some (.int x) => (match storeLocals Ls k (.int (x + Int32.ofInt cst)) with | some l' => nx len 3 pc l' st | none => none) | _ => none)
  | .goto o => (if len = 3 ∧ 0 ≤ (pc : Int) + o then some (((pc : Int) + o).toNat, Ls, st) else none)
  | _ => none
theorem nx_inv {len need pc pc' : Nat} {Ls Ls' : Array Slot} {st st' : List Value} (h : nx len need pc Ls st = some (pc', Ls', st')) : len = need ∧ pc + need = pc' ∧ Ls = Ls' ∧ st = st' := by
  unfold nx at h; split at h
  · rename_i q; simp only [Option.some.injEq, Prod.mk.injEq] at h; exact ⟨q, h.1, h.2.1, h.2.2⟩
  · cases h
theorem ld1_inv {Ls : Array Slot} {i : Nat} {v : Value} (h : ld1 Ls i = some v) : Ls[i]? = some (.val v) := by
  unfold ld1 at h; split at h
  · rename_i q; cases h; exact q
  · cases h
theorem ldv_inv {P : Value → Bool} {need len pc pc' i : Nat} {Ls Ls' : Array Slot} {st st' : List Value} (h : ldv P need len pc Ls st i = some (pc', Ls', st')) : ∃ v, Ls[i]? = some (.val v) ∧ P v = true ∧ len = need ∧ pc + need = pc' ∧ Ls = Ls' ∧ v :: st = st' := by
  unfold ldv at h; split at h
  · rename_i v q; split at h
    · rename_i hp; exact ⟨v, ld1_inv q, hp, nx_inv h⟩
    · cases h
  · cases h
theorem stv_inv {P : Value → Bool} {need len pc pc' i : Nat} {Ls Ls' : Array Slot} {st st' : List Value} (h : stv P need len pc Ls st i = some (pc', Ls', st')) : ∃ v, st = v :: st' ∧ P v = true ∧ storeLocals Ls i v = some Ls' ∧ len = need ∧ pc + need = pc' := by
  unfold stv at h; split at h
  · split at h
    · rename_i hp; split at h
      · rename_i q; obtain ⟨a, b, rfl, rfl⟩ := nx_inv h; exact ⟨_, rfl, hp, q, a, b⟩
      · cases h
    · cases h
  · cases h
theorem i2_inv {f : Int32 → Int32 → Int32} {len pc pc' : Nat} {Ls Ls' : Array Slot} {st st' : List Value} (h : i2 f len pc Ls st = some (pc', Ls', st')) : ∃ x y r, st = .int y :: .int x :: r ∧ len = 1 ∧ pc + 1 = pc' ∧ Ls = Ls' ∧ .int (f x y) :: r = st' := by
  unfold i2 at h; split at h
  · exact ⟨_, _, _, rfl, nx_inv h⟩
  · cases h
theorem l2_inv {f : Int64 → Int64 → Int64} {len pc pc' : Nat} {Ls Ls' : Array Slot} {st st' : List Value} (h : l2 f len pc Ls st = some (pc', Ls', st')) : ∃ x y r, st = .long y :: .long x :: r ∧ len = 1 ∧ pc + 1 = pc' ∧ Ls = Ls' ∧ .long (f x y) :: r = st' := by
  unfold l2 at h; split at h
  · exact ⟨_, _, _, rfl, nx_inv h⟩
  · cases h
theorem li2_inv {f : Int64 → Int32 → Int64} {len pc pc' : Nat} {Ls Ls' : Array Slot} {st st' : List Value} (h : li2 f len pc Ls st = some (pc', Ls', st')) : ∃ x y r, st = .int y :: .long x :: r ∧ len = 1 ∧ pc + 1 = pc' ∧ Ls = Ls' ∧ .long (f x y) :: r = st' := by
  unfold li2 at h; split at h
  · exact ⟨_, _, _, rfl, nx_inv h⟩
  · cases h
theorem i1_inv {f : Int32 → Value} {len pc pc' : Nat} {Ls Ls' : Array Slot} {st st' : List Value} (h : i1 f len pc Ls st = some (pc', Ls', st')) : ∃ x r, st = .int x :: r ∧ len = 1 ∧ pc + 1 = pc' ∧ Ls = Ls' ∧ f x :: r = st' := by
  unfold i1 at h; split at h
  · exact ⟨_, _, rfl, nx_inv h⟩
  · cases h
theorem l1_inv {f : Int64 → Value} {len pc pc' : Nat} {Ls Ls' : Array Slot} {st st' : List Value} (h : l1 f len pc Ls st = some (pc', Ls', st')) : ∃ x r, st = .long x :: r ∧ len = 1 ∧ pc + 1 = pc' ∧ Ls = Ls' ∧ f x :: r = st' := by
  unfold l1 at h; split at h
  · exact ⟨_, _, rfl, nx_inv h⟩
  · cases h
theorem isI_inv {v : Value} (h : isI v = true) : ∃ x, v = .int x := by cases v <;> simp [isI] at h ⊢
theorem isL_inv {v : Value} (h : isL v = true) : ∃ x, v = .long x := by cases v <;> simp [isL] at h ⊢
theorem step_sound {tb : Tables} [Ours tb] {e : Env} {below : List Frame} {T : State} {m : MethodId} {c : Code} {target : State} (hA : At T m c below) (hx : tb.exec = Jvm.exec) {i : Instr} {len pc pc' : Nat} {Ls Ls' : Array Slot} {st st' : List Value} (hd : decode c.code pc = .ok (i, len)) (hs : stepS i len pc Ls st = some (pc', Ls', st'))
    (hr : Steps tb e below (T.setTop (mkF m pc' Ls' st')) target) : Steps tb e below (T.setTop (mkF m pc Ls st)) target := by
  cases i
  case aload_n k => obtain ⟨v, h1, h2, rfl, rfl, rfl, rfl⟩ := ldv_inv hs; exact XS.aloadN hA hx rfl hd h1 h2 hr
  case aload k => obtain ⟨v, h1, h2, rfl, rfl, rfl, rfl⟩ := ldv_inv hs; exact XS.aload hA hx rfl hd h1 h2 hr
  case iload_n k => obtain ⟨v, h1, h2, rfl, rfl, rfl, rfl⟩ := ldv_inv hs; obtain ⟨x, rfl⟩ := isI_inv h2; exact XS.iloadN hA hx rfl hd h1 hr
  case iload k => obtain ⟨v, h1, h2, rfl, rfl, rfl, rfl⟩ := ldv_inv hs; obtain ⟨x, rfl⟩ := isI_inv h2; exact XS.iload hA hx rfl hd h1 hr
  case lload_n k => obtain ⟨v, h1, h2, rfl, rfl, rfl, rfl⟩ := ldv_inv hs; obtain ⟨x, rfl⟩ := isL_inv h2; exact XT.lloadN hA hx rfl hd h1 hr
  case lload k => obtain ⟨v, h1, h2, rfl, rfl, rfl, rfl⟩ := ldv_inv hs; obtain ⟨x, rfl⟩ := isL_inv h2; exact XT.lload hA hx rfl hd h1 hr
  case astore_n k => obtain ⟨v, rfl, h2, h3, rfl, rfl⟩ := stv_inv hs; exact XS.astoreN hA hx rfl hd rfl h2 h3 hr
  case astore k => obtain ⟨v, rfl, h2, h3, rfl, rfl⟩ := stv_inv hs; exact XS.astore hA hx rfl hd rfl h2 h3 hr
  case istore_n k => obtain ⟨v, rfl, h2, h3, rfl, rfl⟩ := stv_inv hs; obtain ⟨x, rfl⟩ := isI_inv h2; exact XS.istoreN hA hx rfl hd rfl h3 hr
  case istore k => obtain ⟨v, rfl, h2, h3, rfl, rfl⟩ := stv_inv hs; obtain ⟨x, rfl⟩ := isI_inv h2; exact XS.istore hA hx rfl hd rfl h3 hr
  case lstore_n k => obtain ⟨v, rfl, h2, h3, rfl, rfl⟩ := stv_inv hs; obtain ⟨x, rfl⟩ := isL_inv h2; exact XT.lstoreN hA hx rfl hd rfl h3 hr
  case lstore k => obtain ⟨v, rfl, h2, h3, rfl, rfl⟩ := stv_inv hs; obtain ⟨x, rfl⟩ := isL_inv h2; exact XT.lstore hA hx rfl hd rfl h3 hr
  case iconst i => obtain ⟨rfl, rfl, rfl, rfl⟩ := nx_inv hs; exact XS.iconst hA hx rfl hd hr
  case lconst i => obtain ⟨rfl, rfl, rfl, rfl⟩ := nx_inv hs; exact XT.lconst hA hx rfl hd hr
  case bipush i => obtain ⟨rfl, rfl, rfl, rfl⟩ := nx_inv hs; exact XS.bipush hA hx rfl hd hr
  case sipush i => obtain ⟨rfl, rfl, rfl, rfl⟩ := nx_inv hs; exact XS.sipush hA hx rfl hd hr
  case aconst_null => obtain ⟨rfl, rfl, rfl, rfl⟩ := nx_inv hs; exact XS.aconstNull hA hx rfl hd hr
  case iadd => obtain ⟨x, y, r, rfl, rfl, rfl, rfl, rfl⟩ := i2_inv hs; exact XS.iadd hA hx rfl hd rfl hr
  case isub => obtain ⟨x, y, r, rfl, rfl, rfl, rfl, rfl⟩ := i2_inv hs; exact XS.isub hA hx rfl hd rfl hr
  case imul => obtain ⟨x, y, r, rfl, rfl, rfl, rfl, rfl⟩ := i2_inv hs; exact XS.imul hA hx rfl hd rfl hr
  case iand => obtain ⟨x, y, r, rfl, rfl, rfl, rfl, rfl⟩ := i2_inv hs; exact XS.iand hA hx rfl hd rfl hr
  case ior => obtain ⟨x, y, r, rfl, rfl, rfl, rfl, rfl⟩ := i2_inv hs; exact XT.ior hA hx rfl hd rfl hr
  case ixor => obtain ⟨x, y, r, rfl, rfl, rfl, rfl, rfl⟩ := i2_inv hs; exact XT.ixor hA hx rfl hd rfl hr
  case ishl => obtain ⟨x, y, r, rfl, rfl, rfl, rfl, rfl⟩ := i2_inv hs; exact XT.ishl hA hx rfl hd rfl hr
  case ishr => obtain ⟨x, y, r, rfl, rfl, rfl, rfl, rfl⟩ := i2_inv hs; exact XT.ishr hA hx rfl hd rfl hr
  case iushr => obtain ⟨x, y, r, rfl, rfl, rfl, rfl, rfl⟩ := i2_inv hs; exact XT.iushr hA hx rfl hd rfl hr
  case ladd => obtain ⟨x, y, r, rfl, rfl, rfl, rfl, rfl⟩ := l2_inv hs; exact XT.ladd hA hx rfl hd rfl hr
  case lsub => obtain ⟨x, y, r, rfl, rfl, rfl, rfl, rfl⟩ := l2_inv hs; exact XT.lsub hA hx rfl hd rfl hr
  case lmul => obtain ⟨x, y, r, rfl, rfl, rfl, rfl, rfl⟩ := l2_inv hs; exact XT.lmul hA hx rfl hd rfl hr
  case land => obtain ⟨x, y, r, rfl, rfl, rfl, rfl, rfl⟩ := l2_inv hs; exact XT.land hA hx rfl hd rfl hr
  case lor => obtain ⟨x, y, r, rfl, rfl, rfl, rfl, rfl⟩ := l2_inv hs; exact XT.lor hA hx rfl hd rfl hr
  case lshl => obtain ⟨x, y, r, rfl, rfl, rfl, rfl, rfl⟩ := li2_inv hs; exact XT.lshl hA hx rfl hd rfl hr
  case lushr => obtain ⟨x, y, r, rfl, rfl, rfl, rfl, rfl⟩ := li2_inv hs; exact XT.lushr hA hx rfl hd rfl hr
  case lcmp =>
    simp only [stepS] at hs; split at hs
    · obtain ⟨rfl, rfl, rfl, rfl⟩ := nx_inv hs; exact XT.lcmp hA hx rfl hd rfl hr
    · cases hs
  case ineg => obtain ⟨x, r, rfl, rfl, rfl, rfl, rfl⟩ := i1_inv hs; exact XS.ineg hA hx rfl hd rfl hr
  case lneg => obtain ⟨x, r, rfl, rfl, rfl, rfl, rfl⟩ := l1_inv hs; exact XT.lneg hA hx rfl hd rfl hr
  case i2l => obtain ⟨x, r, rfl, rfl, rfl, rfl, rfl⟩ := i1_inv hs; exact XT.i2l hA hx rfl hd rfl hr
  case l2i => obtain ⟨x, r, rfl, rfl, rfl, rfl, rfl⟩ := l1_inv hs; exact XT.l2i hA hx rfl hd rfl hr
  case i2b => obtain ⟨x, r, rfl, rfl, rfl, rfl, rfl⟩ := i1_inv hs; exact XT.i2b hA hx rfl hd rfl hr
  case i2c => obtain ⟨x, r, rfl, rfl, rfl, rfl, rfl⟩ := i1_inv hs; exact XT.i2c hA hx rfl hd rfl hr
  case i2s => obtain ⟨x, r, rfl, rfl, rfl, rfl, rfl⟩ := i1_inv hs; exact XT.i2s hA hx rfl hd rfl hr
  case dup =>
    simp only [stepS] at hs; split at hs
    · split at hs
      · rename_i q; obtain ⟨rfl, rfl, rfl, rfl⟩ := nx_inv hs; exact XS.dup hA hx rfl hd rfl q hr
      · cases hs
    · cases hs
  case dup_x1 =>
    simp only [stepS] at hs; split at hs
    · split at hs
      · rename_i q; obtain ⟨rfl, rfl, rfl, rfl⟩ := nx_inv hs; exact XT.dupX1 hA hx rfl hd rfl q.1 q.2 hr
      · cases hs
    · cases hs
  case dup2 =>
    simp only [stepS] at hs; split at hs
    · split at hs
      · rename_i q; obtain ⟨rfl, rfl, rfl, rfl⟩ := nx_inv hs; exact XT.dup2 hA hx rfl hd rfl q.1 q.2 hr
      · cases hs
    · cases hs
  case pop =>
    simp only [stepS] at hs; split at hs
    · split at hs
      · rename_i q; obtain ⟨rfl, rfl, rfl, rfl⟩ := nx_inv hs; exact XT.pop hA hx rfl hd rfl q hr
      · cases hs
    · cases hs
  case iinc k cst =>
    simp only [stepS] at hs; split at hs
    · rename_i q; split at hs
      · rename_i q2; obtain ⟨rfl, rfl, rfl, rfl⟩ := nx_inv hs; exact XS.iinc hA hx rfl hd (ld1_inv q) q2 hr
      · cases hs
    · cases hs
  case goto o =>
    simp only [stepS] at hs; split at hs
    · rename_i q; simp only [Option.some.injEq, Prod.mk.injEq] at hs; obtain ⟨rfl, rfl, rfl⟩ := hs; obtain ⟨rfl, q⟩ := q; exact XS.goto hA hx rfl (pc0 := pc) rfl hd q rfl hr
    · cases hs
  all_goals (exfalso; simp [stepS] at hs)
/-- the instructions of a body, told once -/
abbrev Tab := List (Nat × Instr × Nat)
def TabOk (code : ByteArray) (tb : Tab) : Prop := ∀ x ∈ tb, decode code x.1 = .ok x.2
def fnd (tb : Tab) (pc : Nat) : Option (Instr × Nat) := match tb with | [] => none | x :: r => if x.1 = pc then some x.2 else fnd r pc
theorem fnd_ok {code : ByteArray} : ∀ {tb : Tab}, TabOk code tb → ∀ {pc : Nat} {x : Instr × Nat}, fnd tb pc = some x → decode code pc = .ok x
  | [], _, _, _, h => by cases h
  | y :: r, ok, pc, x, h => by
    unfold fnd at h; split at h
    · rename_i q; cases h; rw [← q]; exact ok y (List.mem_cons_self ..)
    · exact fnd_ok (fun z hz => ok z (List.mem_cons_of_mem _ hz)) h
def runS (tb : Tab) : Nat → Nat → Array Slot → List Value → Option (Nat × Array Slot × List Value)
  | 0, pc, Ls, st => some (pc, Ls, st)
  | f + 1, pc, Ls, st => match fnd tb pc with
    | some (i, len) => (match stepS i len pc Ls st with | some (pc', Ls', st') => runS tb f pc' Ls' st' | none => none)
    | none => none
theorem run_sound {tbl : Tab} {tb : Tables} [Ours tb] {e : Env} {below : List Frame} {T : State} {m : MethodId} {c : Code} {target : State} (ok : TabOk c.code tbl) (hA : At T m c below) (hx : tb.exec = Jvm.exec) : ∀ (f : Nat) {pc pc' : Nat} {Ls Ls' : Array Slot} {st st' : List Value}, runS tbl f pc Ls st = some (pc', Ls', st') →
    Steps tb e below (T.setTop (mkF m pc' Ls' st')) target → Steps tb e below (T.setTop (mkF m pc Ls st)) target
  | 0, pc, pc', Ls, Ls', st, st', h, hr => by
    simp only [runS, Option.some.injEq, Prod.mk.injEq] at h; obtain ⟨rfl, rfl, rfl⟩ := h; exact hr
  | f + 1, pc, pc', Ls, Ls', st, st', h, hr => by
    unfold runS at h; split at h
    · rename_i i len q; split at h
      · rename_i q2; exact step_sound hA hx (fnd_ok ok q) q2 (run_sound ok hA hx f h hr)
      · cases h
    · cases h
theorem Wp.run {tb : Tab} (ok : TabOk M.2.1 tb) (f : Nat) (pc' : Nat) (Ls' : Array Slot) (st' : List Value) (hs : runS tb f pc Ls st = some (pc', Ls', st')) (K : Wx l Z EL M R h W k n pc' Ls' st' Q) : Wx l Z EL M R h W k n pc Ls st Q :=
  Wp.pure (fun hA hx hb hr => run_sound (by rw [hb]; exact ok) hA hx f hs hr) K
theorem Wp.at (Ls' : Array Slot) (st' : List Value) (q : Ls = Ls' ∧ st = st') (K : Wx l Z EL M R h W k n pc Ls' st' Q) : Wx l Z EL M R h W k n pc Ls st Q := by
  obtain ⟨rfl, rfl⟩ := q; exact K
/-- a slot that a value of one word may be stored over -/
def Sl1 (o : Slot) : Prop := o = .unset ∨ ∃ w, o = .val w ∧ w.category = 1
theorem Sl1.unset : Sl1 .unset := Or.inl rfl
theorem Sl1.int (x : Int32) : Sl1 (.val (.int x)) := Or.inr ⟨_, rfl, rfl⟩
theorem Sl1.ref (x : Addr) : Sl1 (.val (.ref x)) := Or.inr ⟨_, rfl, rfl⟩
theorem Wp.istoreS {tb : Tab} (ok : TabOk M.2.1 tb) {i : Nat} {x : Int32} {rest : List Value} {o : Slot} (ho : Sl1 o) (hf : fnd tb pc = some (.istore i, 2)) (hst : st = .int x :: rest) (hold : Ls[i]? = some o) (K : Wx l Z EL M R h W k n (pc + 2) (Ls.setIfInBounds i (.val (.int x))) rest Q) : Wx l Z EL M R h W k n pc Ls st Q := by
  subst hst
  exact Wp.pure (fun hA hx hb hr => XS.istoreS hA hx rfl (by rw [hb]; exact fnd_ok ok hf) rfl hold ho hr) K
theorem Wp.istoreNS {tb : Tab} (ok : TabOk M.2.1 tb) {i : Fin 4} {x : Int32} {rest : List Value} {o : Slot} (ho : Sl1 o) (hf : fnd tb pc = some (.istore_n i, 1)) (hst : st = .int x :: rest) (hold : Ls[i.val]? = some o) (K : Wx l Z EL M R h W k n (pc + 1) (Ls.setIfInBounds i.val (.val (.int x))) rest Q) : Wx l Z EL M R h W k n pc Ls st Q := by
  subst hst
  exact Wp.pure (fun hA hx hb hr => XS.istoreNS hA hx rfl (by rw [hb]; exact fnd_ok ok hf) rfl hold ho hr) K
theorem Wp.astoreS {tb : Tab} (ok : TabOk M.2.1 tb) {i : Nat} {x : Addr} {rest : List Value} {o : Slot} (ho : Sl1 o) (hf : fnd tb pc = some (.astore i, 2)) (hst : st = .ref x :: rest) (hold : Ls[i]? = some o) (K : Wx l Z EL M R h W k n (pc + 2) (Ls.setIfInBounds i (.val (.ref x))) rest Q) : Wx l Z EL M R h W k n pc Ls st Q := by
  subst hst
  exact Wp.pure (fun hA hx hb hr => XS.astoreS hA hx rfl (by rw [hb]; exact fnd_ok ok hf) rfl rfl rfl hold ho hr) K
end Steps
end Jvm.Pilot.@@N@@.Kw
namespace Jvm.Pilot.@@N@@.Kw
open Jvm Jvm.ClassFile Sem Op Lib Jvm.Free Jvm.Stand Jvm.LawKit Jvm.RoadKit Bundle
section Rules
variable {l : Launch} {Z : State} {EL : List (String × Nat)} {M : Mth} {R : Room} {h : Heap} {W : List Addr} {k n pc : Nat} {Ls : Array Slot} {st : List Value} {Q : Option Value → Heap → List Addr → Prop} {a0 : Array Value} {tb : Tab}
theorem ext_trans {h1 h2 h3 : Heap} (E : Ext h1 h2) (F : Ext h2 h3) : Ext h1 h3 := ⟨Nat.le_trans E.1 F.1, fun a c q => F.2 a c (E.2 a c q)⟩
theorem ext_refl (h : Heap) : Ext h h := ⟨Nat.le_refl _, fun _ _ q => q⟩
theorem ext_keep {h1 h2 h3 : Heap} {ws : List Addr} (E : Ext h1 h2) (K : Keep h2 h3 ws) (q : ∀ x ∈ ws, h1.size ≤ x) : Ext h1 h3 := ⟨Nat.le_trans E.1 K.1, fun a c r => K.2.1 a c (E.2 a c r) fun z => absurd (Array.getElem?_eq_some_iff.mp r).1 (Nat.not_lt.mpr (q a z))⟩
theorem ext_wr {h1 h2 h3 : Heap} {a : Addr} {sl : Nat} {v : Value} (E : Ext h1 h2) (K : Wr h2 h3 a sl v) (q : h1.size ≤ a) : Ext h1 h3 := ext_keep E (Keep.of_wr K) (allS q all0)
theorem Own.later {vm vm1 : Vm} {h h' : Heap} (C : CHr Z EL vm h vm1 h') (O : Own Z EL vm h W) : Own Z EL vm1 h' W := fun a ha => by
  obtain ⟨q1, q2, q3⟩ := O a ha
  exact ⟨q1, Nat.lt_of_lt_of_le q2 C.2.1, C.safe q2 q3⟩
theorem Wp.old (K : Ext Z.heap h → Wx l Z EL M R h W k n pc Ls st Q) : Wx l Z EL M R h W k n pc Ls st Q := by
  intro p e s m args below meth c hc T vm0 H
  obtain ⟨locs, k0, X, eT, hS, hk, hZ, hown, hC, hN, hO, q1, q2, hX, hWH, hEL⟩ := id H
  exact K hX p e s m args below meth c hc T vm0 H
theorem Own.app {vm : Vm} {W W' : List Addr} (A : Own Z EL vm h W) (B : Own Z EL vm h W') : Own Z EL vm h (W ++ W') := fun a ha => (List.mem_append.mp ha).elim (A a) (B a)
theorem Wp.up {k' n' : Nat} {W' : List Addr} (hk : k ≤ k') (hn : n ≤ n') (hk' : k' ≤ R.cells) (hn' : n' ≤ R.slots) (hW : ∀ a ∈ W', a ∈ W) (K : Wx l Z EL M R h W' k' n' pc Ls st Q) : Wx l Z EL M R h W k n pc Ls st Q := by
  intro p e s m args below meth c hc T vm0 H
  obtain ⟨locs, k0, X, eT, hS, hk, hZ, hown, hC, hN, hO, q1, q2, r⟩ := H
  exact K p e s m args below meth c hc T vm0 ⟨locs, k0, X.mono (by omega) (by omega), eT, hS, hk, hZ, hown, hC, hN, fun a ha => hO a (hW a ha), hk', hn', r⟩
theorem Wp.conseq {Q' : Option Value → Heap → List Addr → Prop} (K : Wx l Z EL M R h W k n pc Ls st Q') (i : ∀ v h' Wo, Q' v h' Wo → Q v h' Wo) : Wx l Z EL M R h W k n pc Ls st Q := by
  intro p e s m args below meth c hc T vm0 H
  obtain ⟨s₂, v, L, Wo, h1, h2, h3, h4, r⟩ := K p e s m args below meth c hc T vm0 H
  exact ⟨s₂, v, L, Wo, h1, h2, h3, i _ _ _ h4, r⟩
theorem Ct.conseq {rm : Room} {as : Array Value} {Q Q' : Option Value → Heap → Prop} (K : Ct l Z EL M rm as h W Q') (i : ∀ v h', Q' v h' → Q v h') : Ct l Z EL M rm as h W Q := by
  intro p e ha hc hk s m args below hf happ hP hK
  obtain ⟨nn, o, q1, q2, q3, v, L, Wo, q4, q5, r⟩ := K p e ha hc hk s m args below hf happ hP hK
  exact ⟨nn, o, q1, q2, q3, v, L, Wo, q4, i _ _ q5, r⟩
/-! ### branches -/
def cdP : ClassFile.Cond → Int32 → Int32 → Prop
  | .eq, x, y => x = y | .ne, x, y => ¬ x = y | .lt, x, y => x < y | .ge, x, y => ¬ x < y | .gt, x, y => y < x | .le, x, y => ¬ y < x
def cdN : ClassFile.Cond → Int32 → Int32 → Prop
  | .eq, x, y => ¬ x = y | .ne, x, y => x = y | .lt, x, y => ¬ x < y | .ge, x, y => x < y | .gt, x, y => ¬ y < x | .le, x, y => y < x
theorem cd_em (cd : ClassFile.Cond) (x y : Int32) : cdP cd x y ∨ cdN cd x y := by cases cd <;> simp only [cdP, cdN] <;> first | exact Decidable.em _ | exact (Decidable.em _).symm
theorem cdP_t {cd : ClassFile.Cond} {x y : Int32} (q : cdP cd x y) : if_icmp.holds cd x y = true := by
  cases cd
  · exact XT.ii_eq_t q
  · exact XT.ii_ne_t q
  · exact XT.ii_lt_t q
  · exact XT.ii_ge_t q
  · exact XT.ii_gt_t q
  · exact XT.ii_le_t q
theorem cdN_f {cd : ClassFile.Cond} {x y : Int32} (q : cdN cd x y) : if_icmp.holds cd x y = false := by
  cases cd
  · exact XT.ii_eq_f q
  · exact XT.ii_ne_f q
  · exact XT.ii_lt_f q
  · exact XT.ii_ge_f q
  · exact XT.ii_gt_f q
  · exact XT.ii_le_f q
theorem cd0_t {cd : ClassFile.Cond} {x : Int32} (q : cdP cd x 0) : ifCond.holds cd x = true := by
  cases cd
  · exact XT.i0_eq_t q
  · exact XT.i0_ne_t q
  · exact XT.i0_lt_t q
  · exact XT.i0_ge_t q
  · exact XT.i0_gt_t q
  · exact XT.i0_le_t q
theorem cd0_f {cd : ClassFile.Cond} {x : Int32} (q : cdN cd x 0) : ifCond.holds cd x = false := by
  cases cd
  · exact XT.i0_eq_f q
  · exact XT.i0_ne_f q
  · exact XT.i0_lt_f q
  · exact XT.i0_ge_f q
  · exact XT.i0_gt_f q
  · exact XT.i0_le_f q
theorem Wp.icmpT (ok : TabOk M.2.1 tb) {cd : ClassFile.Cond} {o : Int} {x y : Int32} {rest : List Value} (pc' : Nat) (hf : fnd tb pc = some (.if_icmp cd o, 3)) (hst : st = .int y :: .int x :: rest) (hc : cdP cd x y) (ho : 0 ≤ (pc : Int) + o) (hp : ((pc : Int) + o).toNat = pc') (K : Wx l Z EL M R h W k n pc' Ls rest Q) : Wx l Z EL M R h W k n pc Ls st Q := by
  subst hst
  exact Wp.pure (fun hA hx hb hr => XS.icmpYes hA hx rfl (pc0 := pc) rfl (by rw [hb]; exact fnd_ok ok hf) rfl (cdP_t hc) ho hp hr) K
theorem Wp.icmpF (ok : TabOk M.2.1 tb) {cd : ClassFile.Cond} {o : Int} {x y : Int32} {rest : List Value} (hf : fnd tb pc = some (.if_icmp cd o, 3)) (hst : st = .int y :: .int x :: rest) (hc : cdN cd x y) (K : Wx l Z EL M R h W k n (pc + 3) Ls rest Q) : Wx l Z EL M R h W k n pc Ls st Q := by
  subst hst
  exact Wp.pure (fun hA hx hb hr => XS.icmpNo hA hx rfl (by rw [hb]; exact fnd_ok ok hf) rfl (cdN_f hc) hr) K
theorem Wp.icmp (ok : TabOk M.2.1 tb) {cd : ClassFile.Cond} {o : Int} {x y : Int32} {rest : List Value} (pc' : Nat) (hf : fnd tb pc = some (.if_icmp cd o, 3)) (hst : st = .int y :: .int x :: rest) (ho : 0 ≤ (pc : Int) + o) (hp : ((pc : Int) + o).toNat = pc') (K1 : cdP cd x y → Wx l Z EL M R h W k n pc' Ls rest Q) (K2 : cdN cd x y → Wx l Z EL M R h W k n (pc + 3) Ls rest Q) : Wx l Z EL M R h W k n pc Ls st Q :=
  (cd_em cd x y).elim (fun q => Wp.icmpT ok pc' hf hst q ho hp (K1 q)) (fun q => Wp.icmpF ok hf hst q (K2 q))
theorem Wp.ifT (ok : TabOk M.2.1 tb) {cd : ClassFile.Cond} {o : Int} {x : Int32} {rest : List Value} (pc' : Nat) (hf : fnd tb pc = some (.ifCond cd o, 3)) (hst : st = .int x :: rest) (hc : cdP cd x 0) (ho : 0 ≤ (pc : Int) + o) (hp : ((pc : Int) + o).toNat = pc') (K : Wx l Z EL M R h W k n pc' Ls rest Q) : Wx l Z EL M R h W k n pc Ls st Q := by
  subst hst
  exact Wp.pure (fun hA hx hb hr => XS.ifYes hA hx rfl (pc0 := pc) rfl (by rw [hb]; exact fnd_ok ok hf) rfl (cd0_t hc) ho hp hr) K
theorem Wp.ifF (ok : TabOk M.2.1 tb) {cd : ClassFile.Cond} {o : Int} {x : Int32} {rest : List Value} (hf : fnd tb pc = some (.ifCond cd o, 3)) (hst : st = .int x :: rest) (hc : cdN cd x 0) (K : Wx l Z EL M R h W k n (pc + 3) Ls rest Q) : Wx l Z EL M R h W k n pc Ls st Q := by
  subst hst
  exact Wp.pure (fun hA hx hb hr => XS.ifNo hA hx rfl (by rw [hb]; exact fnd_ok ok hf) rfl (cd0_f hc) hr) K
theorem Wp.if0 (ok : TabOk M.2.1 tb) {cd : ClassFile.Cond} {o : Int} {x : Int32} {rest : List Value} (pc' : Nat) (hf : fnd tb pc = some (.ifCond cd o, 3)) (hst : st = .int x :: rest) (ho : 0 ≤ (pc : Int) + o) (hp : ((pc : Int) + o).toNat = pc') (K1 : cdP cd x 0 → Wx l Z EL M R h W k n pc' Ls rest Q) (K2 : cdN cd x 0 → Wx l Z EL M R h W k n (pc + 3) Ls rest Q) : Wx l Z EL M R h W k n pc Ls st Q :=
  (cd_em cd x 0).elim (fun q => Wp.ifT ok pc' hf hst q ho hp (K1 q)) (fun q => Wp.ifF ok hf hst q (K2 q))
theorem Wp.nullT (ok : TabOk M.2.1 tb) {o : Int} {rest : List Value} (pc' : Nat) (hf : fnd tb pc = some (.ifnull o, 3)) (hst : st = .null :: rest) (ho : 0 ≤ (pc : Int) + o) (hp : ((pc : Int) + o).toNat = pc') (K : Wx l Z EL M R h W k n pc' Ls rest Q) : Wx l Z EL M R h W k n pc Ls st Q := by
  subst hst
  exact Wp.pure (fun hA hx hb hr => XS.ifnullYes hA hx rfl (pc0 := pc) rfl (by rw [hb]; exact fnd_ok ok hf) rfl ho hp hr) K
theorem Wp.nullF (ok : TabOk M.2.1 tb) {o : Int} {a : Addr} {rest : List Value} (hf : fnd tb pc = some (.ifnull o, 3)) (hst : st = .ref a :: rest) (K : Wx l Z EL M R h W k n (pc + 3) Ls rest Q) : Wx l Z EL M R h W k n pc Ls st Q := by
  subst hst
  exact Wp.pure (fun hA hx hb hr => XS.ifnullNo hA hx rfl (by rw [hb]; exact fnd_ok ok hf) rfl hr) K
theorem Wp.nonnullT (ok : TabOk M.2.1 tb) {o : Int} {a : Addr} {rest : List Value} (pc' : Nat) (hf : fnd tb pc = some (.ifnonnull o, 3)) (hst : st = .ref a :: rest) (ho : 0 ≤ (pc : Int) + o) (hp : ((pc : Int) + o).toNat = pc') (K : Wx l Z EL M R h W k n pc' Ls rest Q) : Wx l Z EL M R h W k n pc Ls st Q := by
  subst hst
  exact Wp.pure (fun hA hx hb hr => XT.ifnonnullYes hA hx rfl (pc0 := pc) rfl (by rw [hb]; exact fnd_ok ok hf) rfl ho hp hr) K
theorem Wp.nonnullF (ok : TabOk M.2.1 tb) {o : Int} {rest : List Value} (hf : fnd tb pc = some (.ifnonnull o, 3)) (hst : st = .null :: rest) (K : Wx l Z EL M R h W k n (pc + 3) Ls rest Q) : Wx l Z EL M R h W k n pc Ls st Q := by
  subst hst
  exact Wp.pure (fun hA hx hb hr => XT.ifnonnullNo hA hx rfl (by rw [hb]; exact fnd_ok ok hf) rfl hr) K
theorem Wp.acmpT (ok : TabOk M.2.1 tb) {cd : ACond} {o : Int} {x y : Value} {rest : List Value} (pc' : Nat) (hf : fnd tb pc = some (.if_acmp cd o, 3)) (hst : st = y :: x :: rest) (h1 : x.isRef = true) (h2 : y.isRef = true) (hc : XT.acmp cd x y = true) (ho : 0 ≤ (pc : Int) + o) (hp : ((pc : Int) + o).toNat = pc') (K : Wx l Z EL M R h W k n pc' Ls rest Q) : Wx l Z EL M R h W k n pc Ls st Q := by
  subst hst
  exact Wp.pure (fun hA hx hb hr => XT.acmpYes hA hx rfl (pc0 := pc) rfl (by rw [hb]; exact fnd_ok ok hf) rfl h1 h2 hc ho hp hr) K
theorem Wp.acmpF (ok : TabOk M.2.1 tb) {cd : ACond} {o : Int} {x y : Value} {rest : List Value} (hf : fnd tb pc = some (.if_acmp cd o, 3)) (hst : st = y :: x :: rest) (h1 : x.isRef = true) (h2 : y.isRef = true) (hc : XT.acmp cd x y = false) (K : Wx l Z EL M R h W k n (pc + 3) Ls rest Q) : Wx l Z EL M R h W k n pc Ls st Q := by
  subst hst
  exact Wp.pure (fun hA hx hb hr => XT.acmpNo hA hx rfl (by rw [hb]; exact fnd_ok ok hf) rfl h1 h2 hc hr) K
theorem Wp.idiv (ok : TabOk M.2.1 tb) {x y : Int32} {rest : List Value} (hf : fnd tb pc = some (.idiv, 1)) (hst : st = .int y :: .int x :: rest) (hy : y ≠ 0) (K : Wx l Z EL M R h W k n (pc + 1) Ls (.int (x / y) :: rest) Q) : Wx l Z EL M R h W k n pc Ls st Q := by
  subst hst
  exact Wp.pure (fun hA hx hb hr => XS.idiv hA hx rfl (by rw [hb]; exact fnd_ok ok hf) rfl hy hr) K
theorem Wp.irem (ok : TabOk M.2.1 tb) {x y : Int32} {rest : List Value} (hf : fnd tb pc = some (.irem, 1)) (hst : st = .int y :: .int x :: rest) (hy : y ≠ 0) (K : Wx l Z EL M R h W k n (pc + 1) Ls (.int (x % y) :: rest) Q) : Wx l Z EL M R h W k n pc Ls st Q := by
  subst hst
  refine Wp.pure (fun hA hx hb hr => XS.irem hA hx rfl (by rw [hb]; exact fnd_ok ok hf) rfl hy ?_) K
  have q : x - x / y * y = x % y := irem_eq_mod x y
  rw [q]; exact hr
theorem Wp.ldiv (ok : TabOk M.2.1 tb) {x y : Int64} {rest : List Value} (hf : fnd tb pc = some (.ldiv, 1)) (hst : st = .long y :: .long x :: rest) (hy : y ≠ 0) (K : Wx l Z EL M R h W k n (pc + 1) Ls (.long (x / y) :: rest) Q) : Wx l Z EL M R h W k n pc Ls st Q := by
  subst hst
  exact Wp.pure (fun hA hx hb hr => XT.ldiv hA hx rfl (by rw [hb]; exact fnd_ok ok hf) rfl hy hr) K
theorem Wp.lrem (ok : TabOk M.2.1 tb) {x y : Int64} {rest : List Value} (hf : fnd tb pc = some (.lrem, 1)) (hst : st = .long y :: .long x :: rest) (hy : y ≠ 0) (K : Wx l Z EL M R h W k n (pc + 1) Ls (.long (x % y) :: rest) Q) : Wx l Z EL M R h W k n pc Ls st Q := by
  subst hst
  refine Wp.pure (fun hA hx hb hr => XT.lrem hA hx rfl (by rw [hb]; exact fnd_ok ok hf) rfl hy ?_) K
  rw [lrem_mod]; exact hr
/-! ### the three kinds of step over the heap -/
theorem Wp.stay {pc' : Nat} {Ls' : Array Slot} {st' : List Value} (hs : ∀ {p : Program} {e : Env} {s : State} {m : MethodId} {args : Array Value} {below : List Frame} {meth : Method} {c : Code} {T : State} {locs : List Loc}, Cx M p meth c → Stand p l e R s m args below meth c T locs k n → T.heap = h → Z.Warmed39 s.vm → s.vm.findClass M.1.cls = some m.cls →
      ∃ T', Stand p l e R s m args below meth c T' locs k n ∧ T'.heap = h ∧ ∀ target, Steps p.tables e below (T'.setTop (mkF m pc' Ls' st')) target → Steps p.tables e below (T.setTop (mkF m pc Ls st)) target)
    (K : Wx l Z EL M R h W k n pc' Ls' st' Q) : Wx l Z EL M R h W k n pc Ls st Q := by
  intro p e s m args below meth c hc T vm0 H
  obtain ⟨locs, k0, X, eT, hS, hk, hZ, hown, r⟩ := H
  obtain ⟨T', X', eT', stp⟩ := hs hc X eT hZ hown
  exact (K p e s m args below meth c hc T' vm0 ⟨locs, k0, X', eT', hS, hk, hZ, hown, r⟩).pre stp
theorem Wp.grow {pc' k' n' : Nat} {Ls' : Array Slot} {st' : List Value} {P : Heap → Prop} (hk' : k' ≤ R.cells) (hn' : n' ≤ R.slots) (hP : ∀ h', P h' → h.size < h'.size)
    (hs : ∀ {p : Program} {e : Env} {s : State} {m : MethodId} {args : Array Value} {below : List Frame} {meth : Method} {c : Code} {T : State} {locs : List Loc}, Cx M p meth c → Stand p l e R s m args below meth c T locs k n → T.heap = h → Z.Warmed39 s.vm → s.vm.findClass M.1.cls = some m.cls →
      ∃ T' h', Stand p l e R s m args below meth c T' locs k' n' ∧ T'.heap = h' ∧ Ext h h' ∧ P h' ∧ ∀ target, Steps p.tables e below (T'.setTop (mkF m pc' Ls' st')) target → Steps p.tables e below (T.setTop (mkF m pc Ls st)) target)
    (K : ∀ h', Ext h h' → P h' → Wx l Z EL M R h' (h.size :: W) k' n' pc' Ls' st' Q) : Wx l Z EL M R h W k n pc Ls st Q := by
  intro p e s m args below meth c hc T vm0 H
  obtain ⟨locs, k0, X, eT, hS, hk, hZ, hown, hC, hN, hO, -, -, hX, hWH, hEL⟩ := H
  obtain ⟨T', h', X', eT', E, hPh, stp⟩ := hs hc X eT hZ hown
  have C2 := CHr.ext E hC.1
  refine (K h' E hPh p e s m args below meth c hc T' vm0 ⟨locs, k0, X', eT', hS, Nat.le_trans hk E.1, hZ, hown, hC.trans C2, hN, ?_, hk', hn', ext_trans hX E, hWH, hEL⟩).pre stp
  intro a ha
  rcases List.mem_cons.mp ha with rfl | ha
  · exact ⟨hX.1, hP _ hPh, (Safe.new (Nat.le_refl _)).ext E hC.1⟩
  · exact Own.later C2 hO a ha
theorem Wp.wr {pc' : Nat} {Ls' : Array Slot} {st' : List Value} {a : Addr} {sl : Nat} {v : Value} (ha : a ∈ W)
    (hs : ∀ {p : Program} {e : Env} {s : State} {m : MethodId} {args : Array Value} {below : List Frame} {meth : Method} {c : Code} {T : State} {locs : List Loc}, Cx M p meth c → Stand p l e R s m args below meth c T locs k n → T.heap = h → Z.Warmed39 s.vm → s.vm.findClass M.1.cls = some m.cls →
      ∃ T' h', Stand p l e R s m args below meth c T' (locs ++ [⟨a, sl⟩]) k n ∧ T'.heap = h' ∧ Wr h h' a sl v ∧ ∀ target, Steps p.tables e below (T'.setTop (mkF m pc' Ls' st')) target → Steps p.tables e below (T.setTop (mkF m pc Ls st)) target)
    (K : ∀ h', Wr h h' a sl v → Wx l Z EL M R h' W k n pc' Ls' st' Q) : Wx l Z EL M R h W k n pc Ls st Q := by
  intro p e s m args below meth c hc T vm0 H
  obtain ⟨locs, k0, X, eT, hS, hk, hZ, hown, hC, hN, hO, q1, q2, hX, hWH, hEL⟩ := H
  obtain ⟨T', h', X', eT', Wr', stp⟩ := hs hc X eT hZ hown
  have C2 := CHr.wr Wr' (hO a ha).2.2 hC.1
  exact (K h' Wr' p e s m args below meth c hc T' vm0 ⟨_, k0, X', eT', hS, by rw [Wr'.size]; exact hk, hZ, hown, hC.trans C2, Fr.snoc X' hN (hO a ha).1, Own.later C2 hO, q1, q2, ext_wr hX Wr' (hO a ha).1, hWH, hEL⟩).pre stp
/-! ### calls -/
theorem backC {M' : Mth} {rm : Room} {as : Array Value} {W' : List Addr} {Q' : Option Value → Heap → List Addr → Prop} {p : Program} {e : Env} {below : List Frame} {s : State} {args : Array Value} {vm0 : Vm} {len Wd : Nat} (C : Ct3 l Z EL M' rm as h W' Q') (hZ : Z.Warmed39 vm0) (wc : (Jvm.Cond.code M'.1 M'.2.1 M'.2.2.1 M'.2.2.2).before a0 Z = true) (wz : (Jvm.Cond.initialized M'.1.cls).before a0 Z = true)
    (hf : rm.frames + 1 ≤ R.frames) (hl : Wd + (M'.2.2.1 + 11) + rm.locals ≤ R.locals) (hEL : EW Z a0 EL) (H : CHv Z EL vm0 h) (hO : Own Z EL vm0 h W') (hX : Ext Z.heap h) :
    BackS l R p e below (s.setVm vm0) args M'.1 len Wd (fun A a => a = as ∧ A.U.heap = h ∧ A.cells + rm.cells ≤ R.cells ∧ A.slots + rm.slots ≤ R.slots)
      (fun A _ v B => ∃ L Wo, Q' v B.U.heap Wo ∧ Own Z EL B.U.vm B.U.heap Wo ∧ Fr Z.heap.size L ∧ B.locs = A.locs ++ L ∧ B.cells = A.cells + rm.cells ∧ B.slots = A.slots + rm.slots ∧ CHr Z EL vm0 h B.U.vm B.U.heap ∧ Ext Z.heap B.U.heap ∧ (EL = [] → (s.setVm vm0).WarmedH B.U.vm)) :=
  BackS.of_freeW (bytes := M'.2.1) (maxL := M'.2.2.1) (ret := M'.2.2.2) (E := fun _ first o t L k n => k = rm.cells ∧ n = rm.slots ∧ (∃ v Wo, o = .returned v ∧ Q' v t.heap Wo ∧ Own Z EL t.vm t.heap Wo) ∧ Fr Z.heap.size L ∧ CHr Z EL first.vm first.heap t.vm t.heap ∧ Ext Z.heap t.heap ∧ (EL = [] → first.WarmedH t.vm)) C hf hl
    (fun m meth c A a Y hp => have hU : Z.Warmed39 A.U.vm := wtrans (s := s.setVm vm0) hZ Y.warmed
      ⟨by show (Jvm.Cond.and _ .tt).before a A.U = true; rw [Cond.before_and, mv hU wc]; rfl, mv hU wc, mv hU wz, hp.2.2.1, hp.2.2.2⟩)
    (fun m meth c A a g mk Y hp => ⟨hp.1, wtrans (s := s.setVm vm0) hZ Y.warmed, hp.2.1, (show CHv Z EL A.U.vm h from (CHv.at Y hZ hEL H).1), (show Own Z EL A.U.vm h W' from Own.later (CHv.at Y hZ hEL H) hO), hX⟩) (fun _ _ _ _ _ _ _ _ _ => trivial)
    (fun _ _ _ _ ⟨v, L, Wo, h1, h2, h8, h3, h4, h6, h7, h5⟩ => ⟨L, _, _, h5, rfl, rfl, ⟨v, Wo, h1, h2, h8⟩, h3, h4, h6, h7⟩)
    (fun m meth c A a g mk v t L k n Y hp _ _ ⟨e1, e2, ⟨v', Wo, e3, e4, e9⟩, e6, e5, e7, e8⟩ => by
      cases e3; subst e1 e2
      refine ⟨L, Wo, e4, e9, e6, rfl, rfl, rfl, (CHv.at Y hZ hEL H).trans ?_, e7, fun q => State.WarmedH.trans Y.warmed (e8 q)⟩
      rw [← hp.2.1]; exact e5)
abbrev noH (y : MethodName) : Prop := y.cls ≠ "java/lang/invoke/MethodHandle" ∧ y.cls ≠ "java/lang/invoke/VarHandle"
/-- the general call: what each of the four kinds of invoke gives -/
theorem Wp.call3 {M' : Mth} {rm : Room} {as : Array Value} {W' : List Addr} {Q' : Option Value → Heap → List Addr → Prop} {rest : List Value} {Wd len : Nat} (C : Ct3 l Z EL M' rm as h W' Q') (hEL : EW Z a0 EL) (wc : (Jvm.Cond.code M'.1 M'.2.1 M'.2.2.1 M'.2.2.2).before a0 Z = true) (wz : (Jvm.Cond.initialized M'.1.cls).before a0 Z = true)
    (hf : rm.frames + 1 ≤ R.frames) (hl : Wd + (M'.2.2.1 + 11) + rm.locals ≤ R.locals) (hce : k + rm.cells ≤ R.cells) (hsl : n + rm.slots ≤ R.slots) (hW : ∀ a ∈ W', a ∈ W)
    (hs : ∀ {p : Program} {e : Env} {s : State} {vm0 : Vm} {m : MethodId} {args : Array Value} {below : List Frame} {meth : Method} {c : Code} {T : State} {locs : List Loc} {Pre : Pt → Array Value → Prop} {Post : Pt → Array Value → Option Value → Pt → Prop}, Cx M p meth c → Stand p l e R (s.setVm vm0) m args below meth c T locs k n → T.heap = h → Z.Warmed39 vm0 → vm0.findClass M.1.cls = some m.cls →
      BackS l R p e below (s.setVm vm0) args M'.1 len Wd Pre Post → (∀ vm₁, (s.setVm vm0).WarmedH vm₁ → Pre ⟨T.setVm vm₁, locs, k, n⟩ as) →
      ∃ (v : Option Value) (vm₁ : Vm) (B : Pt), (s.setVm vm0).WarmedH vm₁ ∧ Stand p l e R ((s.setVm vm0).setVm B.U.vm) m args below meth c B.U B.locs B.cells B.slots ∧ (s.setVm vm0).Since B.U.vm B.U.heap.size ∧ T.heap.size ≤ B.U.heap.size ∧ Post ⟨T.setVm vm₁, locs, k, n⟩ as v B ∧
        Steps p.tables e below (T.setTop (mkF m pc Ls st)) (B.U.setTop (mkF m (pc + len) Ls (v.toList ++ rest))))
    (K : ∀ v h' Wo, Q' v h' Wo → h.size ≤ h'.size → Wx l Z EL M R h' (Wo ++ W) (k + rm.cells) (n + rm.slots) (pc + len) Ls (v.toList ++ rest) Q) : Wx l Z EL M R h W k n pc Ls st Q := by
  intro p e s m args below meth c hc T vm0 H
  obtain ⟨locs, k0, X, eT, hS, hk, hZ, hown, hC, hN, hO, q1, q2, hX, hWH, hEL2⟩ := H
  obtain ⟨v, vm₁, B, hw1, XB, hS2, hgr, ⟨L, Wo, hQ, hOo, hL, b1, b2, b3, hC2, hX2, hWH2⟩, stp⟩ := hs hc X eT hZ hown (backC C hZ wc wz hf hl hEL hC.1 (fun a ha => hO a (hW a ha)) hX) fun vm₁ _ => ⟨rfl, eT, hce, hsl⟩
  obtain ⟨X', hS', hZ', hown'⟩ := rebS hS (Nat.le_trans hk (Nat.le_of_eq (congrArg _ eT).symm)) XB hS2 hgr hZ hown
  have b1 : B.locs = locs ++ L := b1
  have b2 : B.cells = k + rm.cells := b2
  have b3 : B.slots = n + rm.slots := b3
  rw [b1, b2, b3] at X'
  exact (K v B.U.heap Wo hQ hC2.2.1 p e s m args below meth c hc B.U B.U.vm ⟨_, _, X', rfl, hS', Nat.le_refl _, hZ', hown', hC.trans hC2, Fr.app hN hL, Own.app hOo (Own.later hC2 hO), hce, hsl, hX2, fun q => State.WarmedH.trans (hWH q) (hWH2 q), hEL2⟩).pre fun t q => stp.trans q
theorem Wp.call {M' : Mth} {rm : Room} {as : Array Value} {W' : List Addr} {Q' : Option Value → Heap → Prop} {rest : List Value} {Wd len : Nat} (C : Ct l Z EL M' rm as h W' Q') (hEL : EW Z a0 EL) (wc : (Jvm.Cond.code M'.1 M'.2.1 M'.2.2.1 M'.2.2.2).before a0 Z = true) (wz : (Jvm.Cond.initialized M'.1.cls).before a0 Z = true)
    (hf : rm.frames + 1 ≤ R.frames) (hl : Wd + (M'.2.2.1 + 11) + rm.locals ≤ R.locals) (hce : k + rm.cells ≤ R.cells) (hsl : n + rm.slots ≤ R.slots) (hW : ∀ a ∈ W', a ∈ W)
    (hs : ∀ {p : Program} {e : Env} {s : State} {vm0 : Vm} {m : MethodId} {args : Array Value} {below : List Frame} {meth : Method} {c : Code} {T : State} {locs : List Loc} {Pre : Pt → Array Value → Prop} {Post : Pt → Array Value → Option Value → Pt → Prop}, Cx M p meth c → Stand p l e R (s.setVm vm0) m args below meth c T locs k n → T.heap = h → Z.Warmed39 vm0 → vm0.findClass M.1.cls = some m.cls →
      BackS l R p e below (s.setVm vm0) args M'.1 len Wd Pre Post → (∀ vm₁, (s.setVm vm0).WarmedH vm₁ → Pre ⟨T.setVm vm₁, locs, k, n⟩ as) →
      ∃ (v : Option Value) (vm₁ : Vm) (B : Pt), (s.setVm vm0).WarmedH vm₁ ∧ Stand p l e R ((s.setVm vm0).setVm B.U.vm) m args below meth c B.U B.locs B.cells B.slots ∧ (s.setVm vm0).Since B.U.vm B.U.heap.size ∧ T.heap.size ≤ B.U.heap.size ∧ Post ⟨T.setVm vm₁, locs, k, n⟩ as v B ∧
        Steps p.tables e below (T.setTop (mkF m pc Ls st)) (B.U.setTop (mkF m (pc + len) Ls (v.toList ++ rest))))
    (K : ∀ v h', Q' v h' → h.size ≤ h'.size → Wx l Z EL M R h' W (k + rm.cells) (n + rm.slots) (pc + len) Ls (v.toList ++ rest) Q) : Wx l Z EL M R h W k n pc Ls st Q :=
  Wp.call3 (Q' := fun v h' _ => Q' v h') C hEL wc wz hf hl hce hsl hW hs (fun v h' Wo q hh => Wp.up (Nat.le_refl _) (Nat.le_refl _) hce hsl (fun a ha => List.mem_append_right _ ha) (K v h' q hh))
theorem Wp.callS (ok : TabOk M.2.1 tb) {M' : Mth} {rm : Room} {index : Nat} {W' : List Addr} {Q' : Option Value → Heap → Prop} {argsL rest : List Value} {ps : List FieldType} {rt : Option FieldType} (C : Ct l Z EL M' rm argsL.toArray h W' Q') (hEL : EW Z a0 EL) (w1 : (Jvm.Cond.methodLink M.1.cls index M'.1).before a0 Z = true) (w2 : (Jvm.Cond.static M'.1).before a0 Z = true) (wz : (Jvm.Cond.initialized M'.1.cls).before a0 Z = true) (wc : (Jvm.Cond.code M'.1 M'.2.1 M'.2.2.1 M'.2.2.2).before a0 Z = true)
    (hf : fnd tb pc = some (.invokestatic index, 3)) (hst : st = argsL.reverse ++ rest) (hy : noH M'.1) (hd : parseMethodDescriptor M'.1.desc = some ⟨ps, rt⟩) (hlen : argsL.length = ps.length) (hsz : Ls.size = M.2.2.1) (hfr : rm.frames + 1 ≤ R.frames) (hl : (rest.map fun v => v.category).sum + (M'.2.2.1 + 11) + rm.locals ≤ R.locals) (hce : k + rm.cells ≤ R.cells) (hsl : n + rm.slots ≤ R.slots) (hW : ∀ a ∈ W', a ∈ W)
    (K : ∀ v h', Q' v h' → h.size ≤ h'.size → Wx l Z EL M R h' W (k + rm.cells) (n + rm.slots) (pc + 3) Ls (v.toList ++ rest) Q) : Wx l Z EL M R h W k n pc Ls st Q := by
  subst hst
  refine Wp.call C hEL wc wz hfr hl hce hsl hW (fun {p e s vm0 m args below meth c T locs Pre Post} hc X eT hZ hown hB hpre => ?_) K
  exact callSS X hc.1 (y := M'.1) (bytes := M'.2.1) (maxL := M'.2.2.1) (ret := M'.2.2.2) hown (mvT (s := s.setVm vm0) hZ w1) (mvT (s := s.setVm vm0) hZ w2) (mvT (s := s.setVm vm0) hZ wz) (mvT (s := s.setVm vm0) hZ wc) hy hB (g := mkF m pc Ls (argsL.reverse ++ rest)) rfl (by rw [hc.2.2.1]; exact hsz) (argsL := argsL) (rest := rest) (lenOf hd hlen) rfl (by show 2 * 0 + _ ≤ _; simp) (by rw [hc.2.1]; exact fnd_ok ok hf) hpre
theorem Wp.callI (ok : TabOk M.2.1 tb) {M' : Mth} {rm : Room} {index : Nat} {W' : List Addr} {Q' : Option Value → Heap → Prop} {a : Addr} {argsL rest : List Value} {ps : List FieldType} {rt : Option FieldType} (C : Ct l Z EL M' rm (.ref a :: argsL).toArray h W' Q') (hEL : EW Z a0 EL) (w1 : (Jvm.Cond.methodLink M.1.cls index M'.1).before a0 Z = true) (w2 : (Jvm.Cond.instanceMethod M'.1).before a0 Z = true) (wz : (Jvm.Cond.initialized M'.1.cls).before a0 Z = true) (wc : (Jvm.Cond.code M'.1 M'.2.1 M'.2.2.1 M'.2.2.2).before a0 Z = true)
    (hf : fnd tb pc = some (.invokespecial index, 3)) (hst : st = argsL.reverse ++ .ref a :: rest) (hi : M'.1.name = "<init>") (hret : M'.2.2.2 = none) (hy : noH M'.1) (hd : parseMethodDescriptor M'.1.desc = some ⟨ps, rt⟩) (hlen : argsL.length = ps.length) (hsz : Ls.size = M.2.2.1) (hfr : rm.frames + 1 ≤ R.frames) (hl : (rest.map fun v => v.category).sum + (M'.2.2.1 + 11) + rm.locals ≤ R.locals) (hce : k + rm.cells ≤ R.cells) (hsl : n + rm.slots ≤ R.slots) (hW : ∀ a ∈ W', a ∈ W)
    (K : ∀ v h', Q' v h' → h.size ≤ h'.size → Wx l Z EL M R h' W (k + rm.cells) (n + rm.slots) (pc + 3) Ls (v.toList ++ rest) Q) : Wx l Z EL M R h W k n pc Ls st Q := by
  subst hst
  refine Wp.call C hEL wc wz hfr hl hce hsl hW (fun {p e s vm0 m args below meth c T locs Pre Post} hc X eT hZ hown hB hpre => ?_) K
  have wc' := wc
  rw [hret] at wc'
  exact X.specialBackS hc.1 (y := M'.1) hi hown (mvT (s := s.setVm vm0) hZ w1) (mvT (s := s.setVm vm0) hZ w2) (bytes := M'.2.1) (maxL := M'.2.2.1) (mvT (s := s.setVm vm0) hZ wc') hy hB (g := mkF m pc Ls (argsL.reverse ++ .ref a :: rest)) rfl (by rw [hc.2.2.1]; exact hsz) (Steps.refl _) (a := a) (argsL := argsL) (rest := rest) (lenOf hd hlen) rfl (by show 2 * 0 + _ ≤ _; simp) (by rw [hc.2.1]; exact fnd_ok ok hf) hpre
theorem Wp.callI3 (ok : TabOk M.2.1 tb) {M' : Mth} {rm : Room} {index : Nat} {W' : List Addr} {Q' : Option Value → Heap → List Addr → Prop} {a : Addr} {argsL rest : List Value} {ps : List FieldType} {rt : Option FieldType} (C : Ct3 l Z EL M' rm (.ref a :: argsL).toArray h W' Q') (hEL : EW Z a0 EL) (w1 : (Jvm.Cond.methodLink M.1.cls index M'.1).before a0 Z = true) (w2 : (Jvm.Cond.instanceMethod M'.1).before a0 Z = true) (wz : (Jvm.Cond.initialized M'.1.cls).before a0 Z = true) (wc : (Jvm.Cond.code M'.1 M'.2.1 M'.2.2.1 M'.2.2.2).before a0 Z = true)
    (hf : fnd tb pc = some (.invokespecial index, 3)) (hst : st = argsL.reverse ++ .ref a :: rest) (hi : M'.1.name = "<init>") (hret : M'.2.2.2 = none) (hy : noH M'.1) (hd : parseMethodDescriptor M'.1.desc = some ⟨ps, rt⟩) (hlen : argsL.length = ps.length) (hsz : Ls.size = M.2.2.1) (hfr : rm.frames + 1 ≤ R.frames) (hl : (rest.map fun v => v.category).sum + (M'.2.2.1 + 11) + rm.locals ≤ R.locals) (hce : k + rm.cells ≤ R.cells) (hsl : n + rm.slots ≤ R.slots) (hW : ∀ a ∈ W', a ∈ W)
    (K : ∀ v h' Wo, Q' v h' Wo → h.size ≤ h'.size → Wx l Z EL M R h' (Wo ++ W) (k + rm.cells) (n + rm.slots) (pc + 3) Ls (v.toList ++ rest) Q) : Wx l Z EL M R h W k n pc Ls st Q := by
  subst hst
  refine Wp.call3 C hEL wc wz hfr hl hce hsl hW (fun {p e s vm0 m args below meth c T locs Pre Post} hc X eT hZ hown hB hpre => ?_) K
  have wc' := wc
  rw [hret] at wc'
  exact X.specialBackS hc.1 (y := M'.1) hi hown (mvT (s := s.setVm vm0) hZ w1) (mvT (s := s.setVm vm0) hZ w2) (bytes := M'.2.1) (maxL := M'.2.2.1) (mvT (s := s.setVm vm0) hZ wc') hy hB (g := mkF m pc Ls (argsL.reverse ++ .ref a :: rest)) rfl (by rw [hc.2.2.1]; exact hsz) (Steps.refl _) (a := a) (argsL := argsL) (rest := rest) (lenOf hd hlen) rfl (by show 2 * 0 + _ ≤ _; simp) (by rw [hc.2.1]; exact fnd_ok ok hf) hpre
theorem Wp.callV (ok : TabOk M.2.1 tb) {M' : Mth} {rm : Room} {index : Nat} {W' : List Addr} {Q' : Option Value → Heap → Prop} {a : Addr} {argsL rest : List Value} {ps : List FieldType} {rt : Option FieldType} {cC : String} (C : Ct l Z EL M' rm (.ref a :: argsL).toArray h W' Q') (E : Exa Z h a cC) (hEL : EW Z a0 EL) (w1 : (Jvm.Cond.methodLink M.1.cls index M'.1).before a0 Z = true) (wd : (Jvm.Cond.declares M'.1).before a0 Z = true) (ws : (Jvm.Cond.selects cC M'.1 M'.1).before a0 Z = true) (w2 : (Jvm.Cond.instanceMethod M'.1).before a0 Z = true) (wz : (Jvm.Cond.initialized M'.1.cls).before a0 Z = true) (wc : (Jvm.Cond.code M'.1 M'.2.1 M'.2.2.1 M'.2.2.2).before a0 Z = true)
    (hf : fnd tb pc = some (.invokevirtual index, 3)) (hst : st = argsL.reverse ++ .ref a :: rest) (hy : noH M'.1) (hd : parseMethodDescriptor M'.1.desc = some ⟨ps, rt⟩) (hlen : argsL.length = ps.length) (hsz : Ls.size = M.2.2.1) (hfr : rm.frames + 1 ≤ R.frames) (hl : (rest.map fun v => v.category).sum + (M'.2.2.1 + 11) + rm.locals ≤ R.locals) (hce : k + rm.cells ≤ R.cells) (hsl : n + rm.slots ≤ R.slots) (hW : ∀ a ∈ W', a ∈ W)
    (K : ∀ v h', Q' v h' → h.size ≤ h'.size → Wx l Z EL M R h' W (k + rm.cells) (n + rm.slots) (pc + 3) Ls (v.toList ++ rest) Q) : Wx l Z EL M R h W k n pc Ls st Q := by
  subst hst
  refine Wp.call C hEL wc wz hfr hl hce hsl hW (fun {p e s vm0 m args below meth c T locs Pre Post} hc X eT hZ hown hB hpre => ?_) K
  obtain ⟨cq, kq, qa, qb, qc⟩ := isOf (s := s.setVm vm0) hZ eT E
  exact X.virtualBackS hc.1 (y := M'.1) (z := M'.1) hown (mvT (s := s.setVm vm0) hZ w1) (mvT (s := s.setVm vm0) hZ wd) (notFace_of_selects (args := #[]) (mvT (s := s.setVm vm0) hZ ws)) (mvT (s := s.setVm vm0) hZ ws) (mvT (s := s.setVm vm0) hZ w2) hy hB qa qc (g := mkF m pc Ls (argsL.reverse ++ .ref a :: rest)) rfl (by rw [hc.2.2.1]; exact hsz) (Steps.refl _) (argsL := argsL) (rest := rest) (lenOf hd hlen) rfl (by show 2 * 0 + _ ≤ _; simp) (by rw [hc.2.1]; exact fnd_ok ok hf) hpre
/-- a private instance method by invokevirtual or invokespecial's younger form -/
theorem Wp.callP (ok : TabOk M.2.1 tb) {M' : Mth} {rm : Room} {index : Nat} {W' : List Addr} {Q' : Option Value → Heap → Prop} {a : Addr} {argsL rest : List Value} {ps : List FieldType} {rt : Option FieldType} {cC : String} (C : Ct l Z EL M' rm (.ref a :: argsL).toArray h W' Q') (E : Exa Z h a cC) (hEL : EW Z a0 EL) (w1 : (Jvm.Cond.methodLink M.1.cls index M'.1).before a0 Z = true) (ws : (Jvm.Cond.selects M'.1.cls M'.1 M'.1).before a0 Z = true) (wp : (Jvm.Cond.privateMethod M'.1).before a0 Z = true) (w2 : (Jvm.Cond.instanceMethod M'.1).before a0 Z = true) (wz : (Jvm.Cond.initialized M'.1.cls).before a0 Z = true) (wc : (Jvm.Cond.code M'.1 M'.2.1 M'.2.2.1 M'.2.2.2).before a0 Z = true)
    (hf : fnd tb pc = some (.invokevirtual index, 3)) (hst : st = argsL.reverse ++ .ref a :: rest) (hy : noH M'.1) (hd : parseMethodDescriptor M'.1.desc = some ⟨ps, rt⟩) (hlen : argsL.length = ps.length) (hsz : Ls.size = M.2.2.1) (hfr : rm.frames + 1 ≤ R.frames) (hl : (rest.map fun v => v.category).sum + (M'.2.2.1 + 11) + rm.locals ≤ R.locals) (hce : k + rm.cells ≤ R.cells) (hsl : n + rm.slots ≤ R.slots) (hW : ∀ a ∈ W', a ∈ W)
    (K : ∀ v h', Q' v h' → h.size ≤ h'.size → Wx l Z EL M R h' W (k + rm.cells) (n + rm.slots) (pc + 3) Ls (v.toList ++ rest) Q) : Wx l Z EL M R h W k n pc Ls st Q := by
  subst hst
  refine Wp.call C hEL wc wz hfr hl hce hsl hW (fun {p e s vm0 m args below meth c T locs Pre Post} hc X eT hZ hown hB hpre => ?_) K
  obtain ⟨cell, hcell, hobj⟩ := E.cell
  exact X.privateBackS hc.1 (y := M'.1) (bytes := M'.2.1) (maxL := M'.2.2.1) (ret := M'.2.2.2) hown (mvT (s := s.setVm vm0) hZ w1) (mvT (s := s.setVm vm0) hZ w2) (mvT (s := s.setVm vm0) hZ ws) (Cond.privateMethod_at (mvP (s := s.setVm vm0) (args := args) hZ wp)) (mvT (s := s.setVm vm0) hZ wc) hy hB (g := mkF m pc Ls (argsL.reverse ++ .ref a :: rest)) rfl (by rw [hc.2.2.1]; exact hsz) (Steps.refl _) (a := a) (cell := cell) (by rw [eT]; exact hcell) hobj (argsL := argsL) (rest := rest) (lenOf hd hlen) rfl (by show 2 * 0 + _ ≤ _; simp) (by rw [hc.2.1]; exact fnd_ok ok hf) hpre
/-- Object.<init> -/
theorem Wp.initO (ok : TabOk M.2.1 tb) {index : Nat} {a : Addr} {rest : List Value} (w1 : (Jvm.Cond.methodLink M.1.cls index Lib.objectInit).before a0 Z = true) (w2 : (Jvm.Cond.instanceMethod Lib.objectInit).before a0 Z = true) (w3 : (Jvm.Cond.code Lib.objectInit ⟨#[0xb1]⟩ 1 none).before a0 Z = true) (hf : fnd tb pc = some (.invokespecial index, 3)) (hst : st = .ref a :: rest) (hsz : Ls.size = M.2.2.1) (hfr : 1 ≤ R.frames) (hl : (rest.map fun v => v.category).sum + 12 ≤ R.locals)
    (K : Wx l Z EL M R h W k n (pc + 3) Ls rest Q) : Wx l Z EL M R h W k n pc Ls st Q := by
  subst hst
  refine Wp.stay (fun {p e s m args below meth c T locs} hc X eT hZ hown => ?_) K
  exact RoadKit.initO X hc.1 hZ hown w1 w2 w3 eT (g := mkF m pc Ls (.ref a :: rest)) rfl (by rw [hc.2.2.1]; exact hsz) rfl (by rw [hc.2.1]; exact fnd_ok ok hf) hfr (W := (rest.map fun v => v.category).sum) (by show 2 * 0 + _ ≤ _; simp) hl
/-! ### the heap's single steps -/
theorem Wp.new (ok : TabOk M.2.1 tb) {index ni : Nat} {cC : String} (w : (Jvm.Cond.classLink M.1.cls index cC).before a0 Z = true) (wi : (Jvm.Cond.instantiable cC ni).before a0 Z = true) (wz : (Jvm.Cond.initialized cC).before a0 Z = true) (hf : fnd tb pc = some (.new index, 3)) (hc : k + 1 ≤ R.cells) (hl : n + ni ≤ R.slots)
    (K : ∀ h', Ext h h' → Exa Z h' h.size cC → (∀ {O nm d : String} {ty : FieldType}, Laid Z a0 cC O nm d → parseFieldDescriptor d = some ty → Fld Z h' h.size O nm d (defaultValue ty)) → Wx l Z EL M R h' (h.size :: W) (k + 1) (n + ni) (pc + 3) Ls (.ref h.size :: st) Q) : Wx l Z EL M R h W k n pc Ls st Q := by
  refine Wp.grow (P := fun h' => Exa Z h' h.size cC ∧ ∀ {O nm d : String} {ty : FieldType}, Laid Z a0 cC O nm d → parseFieldDescriptor d = some ty → Fld Z h' h.size O nm d (defaultValue ty)) hc hl (fun _ q => q.1.lt) (fun {p e s m args below meth c T locs} hx X eT hZ hown => ?_) (fun h' E q => K h' E q.1 q.2)
  obtain ⟨T2, h2, X2, e2, E2, A2, D2, -, st2⟩ := newO X hx.1 hZ hown w wi wz eT (g := mkF m pc Ls st) rfl (by rw [hx.2.1]; exact fnd_ok ok hf) hc hl
  exact ⟨T2, h2, X2, e2, E2, ⟨A2, D2⟩, st2⟩
theorem Wp.getF (ok : TabOk M.2.1 tb) {index : Nat} {R0 O nm d : String} {a : Addr} {v : Value} {rest : List Value} (F : Fld Z h a O nm d v) (w : (Jvm.Cond.fieldLink M.1.cls index R0 nm d).before a0 Z = true) (via : Via Z R0 O nm d) (hf : fnd tb pc = some (.getfield index, 3)) (hst : st = .ref a :: rest) (K : Wx l Z EL M R h W k n (pc + 3) Ls (v :: rest) Q) : Wx l Z EL M R h W k n pc Ls st Q := by
  subst hst
  refine Wp.stay (fun {p e s m args below meth c T locs} hc X eT hZ hown => ?_) K
  exact RoadKit.getF X hc.1 hZ hown (host := "") (Or.inl w) via eT F (g := mkF m pc Ls (.ref a :: rest)) rfl rfl (by rw [hc.2.1]; exact fnd_ok ok hf)
theorem Wp.getS (ok : TabOk M.2.1 tb) {index : Nat} {R0 O nm d : String} {v : Value} (F : Sta Z Z.heap O nm d v) (w : (Jvm.Cond.fieldLink M.1.cls index R0 nm d).before a0 Z = true) (via : Via Z R0 O nm d) (hf : fnd tb pc = some (.getstatic index, 3)) (K : Wx l Z EL M R h W k n (pc + 3) Ls (v :: st) Q) : Wx l Z EL M R h W k n pc Ls st Q := by
  refine Wp.old fun hX => Wp.stay (fun {p e s m args below meth c T locs} hc X eT hZ hown => ?_) K
  exact RoadKit.getS (host := "") X hc.1 hZ hown w via eT (F.ext hX) (g := mkF m pc Ls st) rfl (by rw [hc.2.1]; exact fnd_ok ok hf)
theorem Wp.putF (ok : TabOk M.2.1 tb) {index ni : Nat} {R0 O nm d cC : String} {ty : FieldType} {a : Addr} {v old : Value} {rest : List Value} (F : Fld Z h a O nm d old) (E : Exa Z h a cC) (ha : a ∈ W) (w : (Jvm.Cond.fieldLink M.1.cls index R0 nm d).before a0 Z = true) (via : Via Z R0 O nm d) (L : (Jvm.Cond.lays cC O nm d).before a0 Z = true ∨ ((Jvm.Cond.laysFinal cC O nm d).before a0 Z = true ∧ M.1.cls = O ∧ M.1.name = "<init>")) (wi : (Jvm.Cond.instantiable cC ni).before a0 Z = true) (hty : parseFieldDescriptor d = some ty) (hfit : fits ty v = true) (hf : fnd tb pc = some (.putfield index, 3)) (hst : st = v :: .ref a :: rest)
    (K : ∀ h', Wr h h' a (RoadKit.slotOf Z O nm d) v → Wx l Z EL M R h' W k n (pc + 3) Ls rest Q) : Wx l Z EL M R h W k n pc Ls st Q := by
  subst hst
  refine Wp.wr ha (fun {p e s m args below meth c T locs} hc X eT hZ hown => ?_) K
  exact RoadKit.putF X hc.1 hZ hown (host := "") (Or.inl w) via eT F E (L.imp id fun q => ⟨q.1, q.2.1, by rw [hc.2.2.2.2.2]; exact q.2.2⟩) wi hty (narrow_of_fits hfit) hfit (g := mkF m pc Ls (v :: .ref a :: rest)) rfl rfl (by rw [hc.2.1]; exact fnd_ok ok hf)
theorem Wp.cast (ok : TabOk M.2.1 tb) {index : Nat} {K0 : String} {a : Addr} {rest : List Value} (F : Ins Z h a K0 true) (w : (Jvm.Cond.classLink M.1.cls index K0).before a0 Z = true) (hf : fnd tb pc = some (.checkcast index, 3)) (hst : st = .ref a :: rest) (K : Wx l Z EL M R h W k n (pc + 3) Ls (.ref a :: rest) Q) : Wx l Z EL M R h W k n pc Ls st Q := by
  subst hst
  refine Wp.stay (fun {p e s m args below meth c T locs} hc X eT hZ hown => ?_) K
  exact castY X hc.1 hZ hown w eT F (g := mkF m pc Ls (.ref a :: rest)) rfl rfl (by rw [hc.2.1]; exact fnd_ok ok hf)
theorem Wp.inst (ok : TabOk M.2.1 tb) {index : Nat} {K0 : String} {a : Addr} {rest : List Value} (F : Ins Z h a K0 true) (w : (Jvm.Cond.classLink M.1.cls index K0).before a0 Z = true) (hf : fnd tb pc = some (.instanceof index, 3)) (hst : st = .ref a :: rest) (K : Wx l Z EL M R h W k n (pc + 3) Ls (.int 1 :: rest) Q) : Wx l Z EL M R h W k n pc Ls st Q := by
  subst hst
  refine Wp.stay (fun {p e s m args below meth c T locs} hc X eT hZ hown => ?_) K
  exact instY X hc.1 hZ hown w eT F (g := mkF m pc Ls (.ref a :: rest)) rfl rfl (by rw [hc.2.1]; exact fnd_ok ok hf)
theorem Wp.ldcI (ok : TabOk M.2.1 tb) {index : Nat} {v : Int32} (w : (Jvm.Cond.constant M.1.cls index v).before a0 Z = true) (hf : fnd tb pc = some (.ldc index, 2)) (K : Wx l Z EL M R h W k n (pc + 2) Ls (.int v :: st) Q) : Wx l Z EL M R h W k n pc Ls st Q := by
  refine Wp.stay (fun {p e s m args below meth c T locs} hc X eT hZ hown => ?_) K
  exact ⟨T, X, eT, X.ldcInt hc.1 hown (mv hZ w) (g := mkF m pc Ls st) rfl (by rw [hc.2.1]; exact fnd_ok ok hf)⟩
theorem Wp.ldcL (ok : TabOk M.2.1 tb) {index : Nat} {v : Int64} (w : (Jvm.Cond.constantLong M.1.cls index v).before a0 Z = true) (hf : fnd tb pc = some (.ldc2_w index, 3)) (K : Wx l Z EL M R h W k n (pc + 3) Ls (.long v :: st) Q) : Wx l Z EL M R h W k n pc Ls st Q := by
  refine Wp.stay (fun {p e s m args below meth c T locs} hc X eT hZ hown => ?_) K
  exact ⟨T, X, eT, X.ldc2Long hc.1 hown (mv hZ w) (g := mkF m pc Ls st) rfl (by rw [hc.2.1]; exact fnd_ok ok hf)⟩
/-! ### arrays: a list of values -/
def Ar (Z : State) (h : Heap) (a : Addr) (ty : FieldType) (vs : List Value) : Prop := ∃ c : Cell, Arr Z h a c ty ∧ c.slots = vs.toArray ∧ vs.length < 2 ^ 31 ∧ ∀ v ∈ vs, fits ty v = true
theorem Ar.lt {a : Addr} {ty : FieldType} {vs : List Value} (A : Ar Z h a ty vs) : a < h.size := by obtain ⟨c, B, -⟩ := A; exact B.lt
theorem Ar.len {a : Addr} {ty : FieldType} {vs : List Value} (A : Ar Z h a ty vs) : vs.length < 2 ^ 31 := by obtain ⟨c, B, -, q, -⟩ := A; exact q
theorem Ar.ext {a : Addr} {ty : FieldType} {vs : List Value} {h' : Heap} (A : Ar Z h a ty vs) (E : Ext h h') : Ar Z h' a ty vs := by obtain ⟨c, B, r⟩ := A; exact ⟨c, B.ext E, r⟩
theorem Ar.keep {a : Addr} {ty : FieldType} {vs : List Value} {h' : Heap} {ws : List Addr} (A : Ar Z h a ty vs) (K : Keep h h' ws) (q : a ∉ ws) : Ar Z h' a ty vs := by obtain ⟨c, B, r⟩ := A; exact ⟨c, ⟨K.2.1 a c B.1 q, B.2⟩, r⟩
theorem Ar.other {a b : Addr} {ty : FieldType} {vs : List Value} {h' : Heap} {sl : Nat} {v : Value} (A : Ar Z h a ty vs) (Wr' : Wr h h' b sl v) (q : a ≠ b) : Ar Z h' a ty vs := by obtain ⟨c, B, r⟩ := A; exact ⟨c, B.other Wr' q, r⟩
theorem Ar.set {a : Addr} {ty : FieldType} {vs : List Value} {h' : Heap} {sl : Nat} {v : Value} (A : Ar Z h a ty vs) (hv : fits ty v = true) (Wr' : Wr h h' a sl v) : Ar Z h' a ty (vs.set sl v) := by
  obtain ⟨c, B, r1, r2, r3⟩ := A
  refine ⟨c.setSlot sl v, B.same Wr', ?_, by rw [List.length_set]; exact r2, fun x hx => ?_⟩
  · show c.slots.setIfInBounds sl v = _
    rw [r1]; simp
  · rcases List.mem_or_eq_of_mem_set hx with q | q
    · exact r3 _ q
    · rw [q]; exact hv
theorem Ar.arv {a : Addr} {ty : FieldType} {vs : List Value} (A : Ar Z h a ty vs) (d : Value) : ∃ kc, Arv Z h a kc ty (Int32.ofNat vs.length) vs d := by
  obtain ⟨c, B, r1, r2, r3⟩ := A
  have e1 : c.slots.size = vs.length := by rw [r1]; simp
  refine ⟨c.cls, c, B, rfl, by rw [e1, XT.n32 r2], Int32.ofNat_not_neg r2, fun j hj => ?_, fun j hj => ?_⟩
  · rw [e1] at hj; rw [r1]; simp [hj]
  · rw [e1] at hj; refine r3 _ ?_; simp [hj]
theorem Ar.of_arv {a : Addr} {ty : FieldType} {vs : List Value} {kc : ClassId} {z : Int32} {d : Value} (A : Arv Z h a kc ty z vs d) (hz : z.toNatClampNeg = vs.length) : Ar Z h a ty vs := by
  obtain ⟨c, B, -, e1, hz0, H, G⟩ := A
  have e2 : c.slots.size = vs.length := e1.trans hz
  refine ⟨c, B, ?_, by rw [← hz]; exact (back32 hz0).2, fun v hv => ?_⟩
  · apply Array.ext
    · simpa using e2
    · intro j h1 h2
      have q := H j h1
      have h3 : j < vs.length := by rw [← e2]; exact h1
      rw [Array.getElem?_eq_getElem h1] at q
      simpa [h3] using q
  · obtain ⟨i, hi, rfl⟩ := List.getElem_of_mem hv
    have := G i (by rw [e2]; exact hi)
    simpa [hi] using this
theorem Ar.xt {a : Addr} {ty : FieldType} {vs : List Value} {p : Program} {e : Env} {s : State} {m : MethodId} {args : Array Value} {below : List Frame} {meth : Method} {c : Code} {T : State} {locs : List Loc} (X : Stand p l e R s m args below meth c T locs k n) (eT : T.heap = h) (hZ : Z.Warmed39 s.vm) (A : Ar Z h a ty vs) : ∃ cl, Jvm.Free.XT.Arr ty a cl T ∧ cl.slots = vs.toArray ∧ Arr Z h a cl ty := by
  obtain ⟨cl, B, r1, r2, r3⟩ := A
  have hU : Z.Warmed39 T.vm := wtrans hZ X.warmed
  exact ⟨cl, ⟨by rw [eT]; exact B.1, State.isArrayOf_alike hU.alike B.2.1, B.2.2, by rw [r1]; simpa using r2⟩, r1, B⟩
theorem Wp.alen (ok : TabOk M.2.1 tb) {a : Addr} {ty : FieldType} {vs : List Value} {rest : List Value} (A : Ar Z h a ty vs) (hf : fnd tb pc = some (.arraylength, 1)) (hst : st = .ref a :: rest) (K : Wx l Z EL M R h W k n (pc + 1) Ls (.int (Int32.ofNat vs.length) :: rest) Q) : Wx l Z EL M R h W k n pc Ls st Q := by
  subst hst
  refine Wp.stay (fun {p e s m args below meth c T locs} hc X eT hZ hown => ?_) K
  obtain ⟨cl, A1, e1, -⟩ := A.xt X eT hZ
  refine ⟨T, X, eT, fun target q => X.alen hc.1 A1 (g := mkF m pc Ls (.ref a :: rest)) rfl rfl (by rw [hc.2.1]; exact fnd_ok ok hf) ?_⟩
  rw [e1]; simpa using q
theorem Wp.aget (ok : TabOk M.2.1 tb) {a : Addr} {ty : FieldType} {vs : List Value} {j : Int32} {i : Nat} {v : Value} {rest : List Value} {ins : Instr} (A : Ar Z h a ty vs) (hj : j = Int32.ofNat i) (hv : vs[i]? = some v) (hf : fnd tb pc = some (ins, 1)) (hins : ins = XT.loadOf ty) (hst : st = .int j :: .ref a :: rest) (K : Wx l Z EL M R h W k n (pc + 1) Ls (v :: rest) Q) : Wx l Z EL M R h W k n pc Ls st Q := by
  subst hst hins
  refine Wp.stay (fun {p e s m args below meth c T locs} hc X eT hZ hown => ?_) K
  obtain ⟨cl, A1, e1, -⟩ := A.xt X eT hZ
  exact ⟨T, X, eT, fun target q => X.aget hc.1 A1 hj (by rw [e1]; simpa using hv) (g := mkF m pc Ls (.int j :: .ref a :: rest)) rfl rfl (by rw [hc.2.1]; exact fnd_ok ok hf) q⟩
theorem wr_of_put {a : Addr} {cl : Cell} {i : Nat} {v : Value} {T T' : State} {ty : FieldType} (A : Arr Z T.heap a cl ty) (hi : i < cl.slots.size) (P : Jvm.Free.XT.Put a (cl.setSlot i v) T T') : Wr T.heap T'.heap a i v := by
  refine ⟨cl, A.1, A.plain, hi, ?_⟩
  obtain ⟨p1, p2, p3⟩ := P
  apply Array.ext_getElem?
  intro y
  by_cases q : y = a
  · subst q; rw [p1]; simp [(Array.getElem?_eq_some_iff.mp A.1).1]
  · rw [p2 y q, Array.getElem?_setIfInBounds_ne (Ne.symm q)]
theorem Wp.aput (ok : TabOk M.2.1 tb) {a : Addr} {ty : FieldType} {vs : List Value} {j : Int32} {i : Nat} {v : Value} {rest : List Value} {ins : Instr} (A : Ar Z h a ty vs) (ha : a ∈ W) (hj : j = Int32.ofNat i) (hi : i < vs.length) (hp : ty.isReference = false) (hfit : fits ty v = true) (hf : fnd tb pc = some (ins, 1)) (hins : ins = XT.storeOf ty) (hst : st = v :: .int j :: .ref a :: rest)
    (K : ∀ h', Wr h h' a i v → Ar Z h' a ty (vs.set i v) → Wx l Z EL M R h' W k n (pc + 1) Ls rest Q) : Wx l Z EL M R h W k n pc Ls st Q := by
  subst hst hins
  refine Wp.wr (sl := i) (v := v) ha (fun {p e s m args below meth c T locs} hc X eT hZ hown => ?_) (fun h' w => K h' w (A.set hfit w))
  obtain ⟨cl, A1, e1, A2⟩ := A.xt X eT hZ
  have hi' : i < cl.slots.size := by rw [e1]; simpa using hi
  obtain ⟨T', X', P, stp⟩ := X.aput hc.1 A1 hj hi' hp hfit (g := mkF m pc Ls (v :: .int j :: .ref a :: rest)) rfl rfl (by rw [hc.2.1]; exact fnd_ok ok hf)
  exact ⟨T', _, X', rfl, by rw [← eT]; rw [← eT] at A2; exact wr_of_put A2 hi' P, stp⟩
theorem Wp.newP (ok : TabOk M.2.1 tb) {aty : ArrayType} {z : Int32} {len cap : Nat} {rest : List Value} (w : (Jvm.Cond.arrayClass (newarray.typeOf aty)).before a0 Z = true) (hf : fnd tb pc = some (.newarray aty, 2)) (hst : st = .int z :: rest) (hz : z = Int32.ofNat len) (hcap : len ≤ cap) (hb : cap * 8 ≤ 536870912) (hc : k + 1 ≤ R.cells) (hl : n + cap ≤ R.slots)
    (K : ∀ h', Ext h h' → Ar Z h' h.size (newarray.typeOf aty) (List.replicate len (defaultValue (newarray.typeOf aty))) → Wx l Z EL M R h' (h.size :: W) (k + 1) (n + cap) (pc + 2) Ls (.ref h.size :: rest) Q) : Wx l Z EL M R h W k n pc Ls st Q := by
  subst hst hz
  have h31 : len < 2 ^ 31 := by omega
  have e1 : (Int32.ofNat len).toNatClampNeg = len := XT.n32 h31
  refine Wp.grow (P := fun h' => Ar Z h' h.size (newarray.typeOf aty) (List.replicate len (defaultValue (newarray.typeOf aty)))) hc hl (fun _ q => q.lt) (fun {p e s m args below meth c T locs} hx X eT hZ hown => ?_) K
  obtain ⟨T2, h2, cA, X2, e2, E2, A2, st2⟩ := RoadKit.newP X hx.1 hZ w eT (g := mkF m pc Ls (.int (Int32.ofNat len) :: rest)) rfl (by rw [hx.2.1]; exact fnd_ok ok hf) rfl (Int32.ofNat_not_neg h31) (by rw [e1]; exact hcap) hb hc hl
  refine ⟨T2, h2, X2, e2, E2, ⟨_, A2, ?_, by simpa using h31, fun v hv => ?_⟩, st2⟩
  · simp [newA, e1]
  · rw [(List.mem_replicate.mp hv).2]; cases aty <;> rfl
/-! ### leaving -/
theorem Wp.leave {v : Option Value} (hv : M.2.2.2 = none → v = none) (hs : ∀ {p : Program} {e : Env} {s : State} {m : MethodId} {args : Array Value} {below : List Frame} {meth : Method} {c : Code} {T : State} {locs : List Loc} {fs : List Frame}, Cx M p meth c → Stand p l e R s m args below meth c T locs k n → (∀ (f : JFrame) (acts : List Action), f.method = m → f.locked = none → f.entered = [] → (doReturn e (T.setTop f) acts v).1 = T.setFrames fs) → Steps p.tables e below (T.setTop (mkF m pc Ls st)) (T.setFrames fs))
    (K : Q v h W) : Wx l Z EL M R h W k n pc Ls st Q := by
  intro p e s m args below meth c hc T vm0 H
  obtain ⟨locs, k0, X, eT, hS, hk, hZ, hown, hC, hN, hO, q1, q2, hX, hWH, a1, hEL⟩ := H
  obtain ⟨fs, hr, hrun, hended, hW1, hW2, hW3, hW4⟩ := X.leaveW hS (by rw [eT]; exact hk) (v := v) (fun q => hv (hc.2.2.2.1 ▸ q)) hc.2.2.2.2.1
  have C2 : CHr Z EL s.vm s.heap (T.setFrames fs).vm (T.setFrames fs).heap := by
    have := hC.trans (CHv.at X hZ hEL hC.1)
    rw [← eT] at this; exact this
  have O2 : Own Z EL (T.setFrames fs).vm (T.setFrames fs).heap W := by
    have := Own.later (CHv.at X hZ hEL hC.1) hO
    rw [← eT] at this; exact this
  exact ⟨_, v, locs, W, hs hc X hr, hrun, hended, by rw [← eT] at K; exact K, O2, hN, C2, by rw [← eT] at hX; exact hX, fun q => State.WarmedH.trans (hWH q) X.warmed, hW1, hW2, hW3, hW4.mono q1 q2⟩
theorem Wp.ret0 (ok : TabOk M.2.1 tb) (hret : M.2.2.2 = none) (hf : fnd tb pc = some (.return_, 1)) (hst : st = []) (K : Q none h W) : Wx l Z EL M R h W k n pc Ls st Q := by
  subst hst
  exact Wp.leave (fun _ => rfl) (fun hc X hr => X.returnOut hc.1 (by rw [hc.2.2.2.1]; exact hret) (by rw [hc.2.1]; exact fnd_ok ok hf) hr) K
theorem Wp.retI (ok : TabOk M.2.1 tb) {t : FieldType} {z : Int32} {rest : List Value} (hret : M.2.2.2 = some t) (ht : t = .int ∨ t = .boolean ∨ t = .byte ∨ t = .char ∨ t = .short) (hf : fnd tb pc = some (.ireturn, 1)) (hst : st = .int z :: rest) (hfit : fits t (.int z) = true) (K : Q (some (.int z)) h W) : Wx l Z EL M R h W k n pc Ls st Q := by
  subst hst
  exact Wp.leave (fun q => by rw [hret] at q; cases q) (fun hc X hr => retOut X hc.1 (by rw [hc.2.2.2.1]; exact hret) (narrow_of_fits hfit) (Or.inl ⟨rfl, ht, z, rfl⟩) (by rw [hc.2.1]; exact fnd_ok ok hf) hr) K
theorem Wp.retL (ok : TabOk M.2.1 tb) {z : Int64} {rest : List Value} (hret : M.2.2.2 = some .long) (hf : fnd tb pc = some (.lreturn, 1)) (hst : st = .long z :: rest) (K : Q (some (.long z)) h W) : Wx l Z EL M R h W k n pc Ls st Q := by
  subst hst
  exact Wp.leave (fun q => by rw [hret] at q; cases q) (fun hc X hr => retOut X hc.1 (by rw [hc.2.2.2.1]; exact hret) (rfl : narrow .long (.long z) = .long z) (Or.inr (Or.inl ⟨rfl, rfl, z, rfl⟩)) (by rw [hc.2.1]; exact fnd_ok ok hf) hr) K
theorem Wp.retA (ok : TabOk M.2.1 tb) {t : FieldType} {w : Value} {rest : List Value} (hret : M.2.2.2 = some t) (ht : t.isReference = true) (hw : w.isRef = true) (hf : fnd tb pc = some (.areturn, 1)) (hst : st = w :: rest) (K : Q (some w) h W) : Wx l Z EL M R h W k n pc Ls st Q := by
  subst hst
  have hn : narrow t w = w := by cases w <;> cases t <;> first | rfl | simp_all [Value.isRef, FieldType.isReference]
  exact Wp.leave (fun q => by rw [hret] at q; cases q) (fun hc X hr => retOut X hc.1 (by rw [hc.2.2.2.1]; exact hret) hn (Or.inr (Or.inr (Or.inr (Or.inr ⟨rfl, ht, hw⟩)))) (by rw [hc.2.1]; exact fnd_ok ok hf) hr) K
end Rules
end Jvm.Pilot.@@N@@.Kw
namespace Jvm.Pilot.@@N@@.Kw
open Jvm Jvm.ClassFile Sem Op Lib Jvm.Free Jvm.Stand Jvm.LawKit Jvm.RoadKit Bundle
/-! ## numbers -/
theorem n_lt {i j : Nat} (hi : i < 2 ^ 31) (hj : j < 2 ^ 31) : (Int32.ofNat i < Int32.ofNat j) ↔ i < j := by
  rw [Int32.lt_iff_toInt_lt, Int32.toInt_ofNat_small hi, Int32.toInt_ofNat_small hj]; omega
theorem n_le {i j : Nat} (hi : i < 2 ^ 31) (hj : j < 2 ^ 31) : (Int32.ofNat i ≤ Int32.ofNat j) ↔ i ≤ j := by
  rw [Int32.le_iff_toInt_le, Int32.toInt_ofNat_small hi, Int32.toInt_ofNat_small hj]; omega
theorem n_eq {i j : Nat} (hi : i < 2 ^ 31) (hj : j < 2 ^ 31) : (Int32.ofNat i = Int32.ofNat j) ↔ i = j := by
  rw [← Int32.toInt_inj, Int32.toInt_ofNat_small hi, Int32.toInt_ofNat_small hj]; omega
theorem n_add (i j : Nat) : Int32.ofNat i + Int32.ofNat j = Int32.ofNat (i + j) := (Int32.ofNat_add i j).symm
theorem n_succ (i : Nat) : Int32.ofNat i + 1 = Int32.ofNat (i + 1) := n_add i 1
theorem n_sub {i j : Nat} (q : j ≤ i) : Int32.ofNat i - Int32.ofNat j = Int32.ofNat (i - j) := by
  obtain ⟨d, rfl⟩ := Nat.exists_eq_add_of_le q
  rw [← n_add, Nat.add_sub_cancel_left, Int32.add_comm, Int32.add_sub_cancel]
theorem n_int {i : Nat} (hi : i < 2 ^ 31) : (Int32.ofNat i).toInt = i := Int32.toInt_ofNat_small hi
theorem n_of {x : Int32} (q : 0 ≤ x.toInt) : x = Int32.ofNat x.toInt.toNat ∧ x.toInt.toNat < 2 ^ 31 := by
  have h2 := x.toInt_lt
  have hb : x.toInt.toNat < 2 ^ 31 := by omega
  refine ⟨Int32.toInt_inj.mp ?_, hb⟩
  rw [n_int hb]; omega
theorem mod_n (x : Int32) {d : Nat} (hd : 0 < d) (hd2 : d < 2 ^ 31) : ∃ m, m < d ∧ (x &&& 2147483647) % Int32.ofNat d = Int32.ofNat m := by
  have h0 : 0 ≤ (x &&& 2147483647).toInt := by rw [Int32.and_comm]; exact (c_and' 2147483647 x (by decide)).1
  have e1 := (c_irem (x &&& 2147483647) (Int32.ofNat d) d (n_int hd2)).1 h0
  have h1 : 0 ≤ ((x &&& 2147483647) % Int32.ofNat d).toInt := by rw [e1]; exact Int.emod_nonneg _ (by omega)
  have h2 : ((x &&& 2147483647) % Int32.ofNat d).toInt < d := by rw [e1]; exact Int.emod_lt_of_pos _ (by omega)
  obtain ⟨e2, -⟩ := n_of h1
  exact ⟨_, by omega, e2⟩
theorem andmod_n (x a : Int32) (ha : 0 ≤ a.toInt) {d : Nat} (hd : 0 < d) (hd2 : d < 2 ^ 31) : ∃ m, m < d ∧ (x &&& a) % Int32.ofNat d = Int32.ofNat m := by
  have h0 : 0 ≤ (x &&& a).toInt := by rw [Int32.and_comm]; exact (c_and' a x ha).1
  have e1 := (c_irem (x &&& a) (Int32.ofNat d) d (n_int hd2)).1 h0
  have h1 : 0 ≤ ((x &&& a) % Int32.ofNat d).toInt := by rw [e1]; exact Int.emod_nonneg _ (by omega)
  have h2 : ((x &&& a) % Int32.ofNat d).toInt < d := by rw [e1]; exact Int.emod_lt_of_pos _ (by omega)
  obtain ⟨e2, -⟩ := n_of h1
  exact ⟨_, by omega, e2⟩
/-! ## bytes and chars -/
def Lat (cs : List Int32) : Prop := ∀ c ∈ cs, 0 ≤ c.toInt ∧ c.toInt ≤ 255
abbrev bt (c : Int32) : Value := .int (lo8 c)
abbrev byt (cs : List Int32) : List Value := cs.map bt
theorem fits_bt (c : Int32) : fits .byte (bt c) = true := fits_nar_byte c
theorem lo8_int (c : Int32) : (lo8 c).toInt = (c.toInt).bmod 256 := by
  simp [lo8, Int32.toInt_toInt8]
theorem lo8_and {c : Int32} (q : 0 ≤ c.toInt ∧ c.toInt ≤ 255) : lo8 c &&& 255 = c := by
  obtain ⟨e, hb⟩ := n_of q.1
  have hk : c.toInt.toNat < 256 := by omega
  rw [e]
  generalize c.toInt.toNat = k at hk
  revert k
  decide +kernel
theorem lo8_inj {c d : Int32} (q : 0 ≤ c.toInt ∧ c.toInt ≤ 255) (r : 0 ≤ d.toInt ∧ d.toInt ≤ 255) (e : lo8 c = lo8 d) : c = d := by
  rw [← lo8_and q, e, lo8_and r]
theorem byt_inj : ∀ {cs ds : List Int32}, Lat cs → Lat ds → byt cs = byt ds → cs = ds
  | [], [], _, _, _ => rfl
  | [], _ :: _, _, _, e => by simp at e
  | _ :: _, [], _, _, e => by simp at e
  | c :: cs, d :: ds, hc, hd, e => by
    simp only [byt, List.map_cons, List.cons.injEq, bt, Value.int.injEq] at e
    rw [lo8_inj (hc c (List.mem_cons_self ..)) (hd d (List.mem_cons_self ..)) e.1, byt_inj (fun x hx => hc x (List.mem_cons_of_mem _ hx)) (fun x hx => hd x (List.mem_cons_of_mem _ hx)) e.2]
theorem c16_lat {c : Int32} (q : 0 ≤ c.toInt ∧ c.toInt ≤ 255) : c16 c = c := by
  obtain ⟨e, hb⟩ := n_of q.1
  have hk : c.toInt.toNat < 256 := by omega
  rw [e]
  generalize c.toInt.toNat = k at hk
  revert k
  decide +kernel
theorem fitc {c : Int32} (q : 0 ≤ c.toInt ∧ c.toInt ≤ 255) : fits .char (.int c) = true := by
  simp only [fits, Bool.and_eq_true, decide_eq_true_eq, Int32.le_iff_toInt_le, show (0 : Int32).toInt = 0 from by decide, show (65535 : Int32).toInt = 65535 from by decide]; omega
theorem shr0 (x : Int32) : x >>> ((0 : Int32) &&& 31) = x := by
  show x >>> (0 : Int32) = x
  exact Int32.shiftRight_zero
theorem and255 (x : Int32) : 0 ≤ (x &&& 255).toInt ∧ (x &&& 255).toInt ≤ 255 := by
  have := c_and' 255 x (by decide); rw [Int32.and_comm]; exact ⟨this.1, this.2⟩
theorem latD {cs : List Int32} (q : (cs.all fun c => decide (0 ≤ c.toInt ∧ c.toInt ≤ 255)) = true) : Lat cs := fun c hc => of_decide_eq_true (List.all_eq_true.mp q c hc)
theorem Lat.nil : Lat [] := fun _ q => nomatch q
theorem Lat.cons {c : Int32} {cs : List Int32} (q : 0 ≤ c.toInt ∧ c.toInt ≤ 255) (r : Lat cs) : Lat (c :: cs) := fun x hx => by
  rcases List.mem_cons.mp hx with rfl | hx
  · exact q
  · exact r x hx
theorem Lat.sub {cs ds : List Int32} (L : Lat cs) (q : ∀ x ∈ ds, x ∈ cs) : Lat ds := fun c hc => L c (q c hc)
theorem Lat.at {cs : List Int32} (L : Lat cs) {i : Nat} {c : Int32} (q : cs[i]? = some c) : 0 ≤ c.toInt ∧ c.toInt ≤ 255 := L c (List.mem_of_getElem? q)
abbrev SN : String := "java/lang/String"
/-- a String of the chars cs, all below 256, compact -/
def Str (Z : State) (h : Heap) (a : Addr) (cs : List Int32) : Prop := Lat cs ∧ Exa Z h a "java/lang/String" ∧ Fld Z h a "java/lang/String" "coder" "B" (.int 0) ∧ ∃ b, Fld Z h a "java/lang/String" "value" "[B" (.ref b) ∧ Ar Z h b .byte (byt cs)
/-- x is a's own cell or its array's -/
def Foot (Z : State) (h : Heap) (a x : Addr) : Prop := x = a ∨ Fld Z h a "java/lang/String" "value" "[B" (.ref x)
section
variable {l : Launch} {Z : State} {EL : List (String × Nat)} {M : Mth} {R : Room} {h h' : Heap} {W : List Addr} {k n pc : Nat} {Ls : Array Slot} {st : List Value} {Q : Option Value → Heap → List Addr → Prop} {a0 : Array Value} {tb : Tab} {a b x : Addr} {cs : List Int32} {ws : List Addr}
theorem Fld.uniq {C nm d : String} {v w : Value} (F : Fld Z h a C nm d v) (G : Fld Z h a C nm d w) : v = w := by
  obtain ⟨cell, cf, k, i, f, h1, h2, -, -, -, -, h7⟩ := F
  obtain ⟨cell', cf', k', i', f', g1, g2, -, -, -, -, g7⟩ := G
  cases h1.symm.trans g1
  cases h2.symm.trans g2
  exact Option.some.inj (h7.symm.trans g7)
theorem Str.lat (S : Str Z h a cs) : Lat cs := S.1
theorem Str.exa (S : Str Z h a cs) : Exa Z h a "java/lang/String" := S.2.1
theorem Str.cod (S : Str Z h a cs) : Fld Z h a "java/lang/String" "coder" "B" (.int 0) := S.2.2.1
theorem Str.val (S : Str Z h a cs) : ∃ b, Fld Z h a "java/lang/String" "value" "[B" (.ref b) ∧ Ar Z h b .byte (byt cs) := S.2.2.2
theorem Str.lt (S : Str Z h a cs) : a < h.size := S.2.1.lt
theorem Str.len (S : Str Z h a cs) : cs.length < 2 ^ 31 := by obtain ⟨b, -, A⟩ := S.val; simpa using A.len
theorem Str.ext (S : Str Z h a cs) (E : Ext h h') : Str Z h' a cs := by
  obtain ⟨q1, q2, q3, b, q4, q5⟩ := S
  exact ⟨q1, q2.ext E, q3.ext E, b, q4.ext E, q5.ext E⟩
theorem Str.keep (S : Str Z h a cs) (K : Keep h h' ws) (q : ∀ x ∈ ws, ¬ Foot Z h a x) : Str Z h' a cs := by
  obtain ⟨q1, q2, q3, b, q4, q5⟩ := S
  have na : a ∉ ws := fun z => q a z (Or.inl rfl)
  have nb : b ∉ ws := fun z => q b z (Or.inr q4)
  exact ⟨q1, q2.keep K, q3.keep K na, b, q4.keep K na, q5.keep K nb⟩
theorem Str.foot_lt (S : Str Z h a cs) (F : Foot Z h a x) : x < h.size := by
  obtain ⟨q1, q2, q3, b, q4, q5⟩ := S
  rcases F with rfl | F
  · exact q2.lt
  · cases Fld.uniq F q4; exact q5.lt
theorem Str.nofoot (S : Str Z h a cs) (q : h.size ≤ x) : ¬ Foot Z h a x := fun F => absurd (S.foot_lt F) (Nat.not_lt.mpr q)
theorem Str.foot_ext (S : Str Z h a cs) (E : Ext h h') (q : ¬ Foot Z h a x) : ¬ Foot Z h' a x := fun F => by
  obtain ⟨q1, q2, q3, b, q4, q5⟩ := S
  rcases F with F | F
  · exact q (Or.inl F)
  · cases Fld.uniq F (q4.ext E); exact q (Or.inr q4)
theorem Str.foot_keep (S : Str Z h a cs) (K : Keep h h' ws) (hs : ∀ x ∈ ws, ¬ Foot Z h a x) (q : ¬ Foot Z h a x) : ¬ Foot Z h' a x := fun F => by
  obtain ⟨q1, q2, q3, b, q4, q5⟩ := S
  have na : a ∉ ws := fun z => hs a z (Or.inl rfl)
  rcases F with F | F
  · exact q (Or.inl F)
  · cases Fld.uniq F (q4.keep K na); exact q (Or.inr q4)
/-- an object of another class, or an array that isn't of bytes, is no part of a String -/
theorem Str.foot_exa {C : String} {ni : Nat} (S : Str Z h a cs) (E : Exa Z h x C) (w : (Jvm.Cond.instantiable C ni).before a0 Z = true) (hn : C ≠ "java/lang/String") : ¬ Foot Z h a x := fun F => by
  obtain ⟨q1, q2, q3, b, q4, q5⟩ := S
  rcases F with rfl | F
  · exact ne_exa E q2 hn rfl
  · cases Fld.uniq F q4
    obtain ⟨c, A, -⟩ := q5
    exact ne_arr E w A rfl
theorem arr_ty {c c' : Cell} {t t' : FieldType} (A : Arr Z h a c t) (B : Arr Z h a c' t') : t = t' := by
  cases A.1.symm.trans B.1
  obtain ⟨-, k1, e1, c1, g1⟩ := A.2.1
  obtain ⟨-, k2, e2, c2, g2⟩ := B.2.1
  cases e1.symm.trans e2
  have := g1.symm.trans g2
  injection this
theorem Str.foot_arr {ni : Nat} {t : FieldType} {vs : List Value} (S : Str Z h a cs) (A : Ar Z h x t vs) (w : (Jvm.Cond.instantiable "java/lang/String" ni).before a0 Z = true) (hn : t ≠ .byte) : ¬ Foot Z h a x := fun F => by
  obtain ⟨q1, q2, q3, b, q4, q5⟩ := S
  obtain ⟨c, A, -⟩ := A
  rcases F with rfl | F
  · exact ne_arr q2 w A rfl
  · cases Fld.uniq F q4
    obtain ⟨c', A', -⟩ := q5
    exact hn (arr_ty A A')
theorem wr_keep {sl : Nat} {v : Value} (w : Wr h h' a sl v) : Keep h h' [a] := Keep.of_wr w
theorem keep_ext (E : Ext h h') : Keep h h' [] := (Keep.refl h []).ext E
theorem ext_of_keep0 (K : Keep h h' []) : Ext h h' := ext_keep (ext_refl h) K fun _ q => nomatch q
theorem all1 {P : Addr → Prop} {y : Addr} (q : P y) : ∀ x ∈ [y], P x := allS q all0
/-! ## ldc of a String constant -/
theorem Wp.ldcStr (ok : TabOk M.2.1 tb) {index nn : Nat} {text : String} (cs : List Int32) (w : (Jvm.Cond.stringLink M.1.cls index text).before a0 Z = true) (wS : ∀ a ∈ Bundle.stringAtoms, a.before a0 Z = true) (hEL : EW Z a0 EL) (hmem : (M.1.cls, index) ∈ EL) (ht : (∀ c ∈ text.toList, c.toNat < 256) ∧ text.toList.map (fun c => Value.int (Jvm.Lit.byteI c.toNat.toUInt16)) = byt cs) (hlat : Lat cs) (hlen : cs.length < 2 ^ 31)
    (hf : fnd tb pc = some (.ldc index, 2)) (hn : 4 * text.toList.length ≤ nn) (hbig : nn ≤ 536870912) (hc : k + 2 ≤ R.cells) (hl : n + (nn + 4) ≤ R.slots)
    (K : ∀ a h', Ext h h' → Str Z h' a cs → (∀ x ∈ W, ¬ Foot Z h' a x) → Wx l Z EL M R h' W (k + 2) (n + (nn + 4)) (pc + 2) Ls (.ref a :: st) Q) : Wx l Z EL M R h W k n pc Ls st Q := by
  intro p e s m args below meth c hx T vm0 H
  obtain ⟨locs, k0, X, eT, hS, hk, hZ, hown, hC, hN, hO, q1, q2, hX, hWH, hEL2⟩ := H
  obtain ⟨a, T', h', k1, b, kc, X', eT', E, hS', hk1, hZ', hown', hE, hFc, hFv, hA, -, -, hC2, -, hne, stp⟩ := ldcCH X hx.1 hZ hown w wS eT hS hk hEL hmem hC.1 (vs := byt cs) (z := Int32.ofNat cs.length) ht (Int32.ofNat_not_neg hlen) (by rw [XT.n32 hlen]; simp) (g := mkF m pc Ls st) rfl (by rw [hx.2.1]; exact fnd_ok ok hf) hn hbig hc hl
  have hO' := Own.later hC2 hO
  have S : Str Z h' a cs := ⟨hlat, hE, hFc, b, hFv, Ar.of_arv hA (by rw [XT.n32 hlen]; simp)⟩
  refine (K a h' E S (fun x hx F => ?_) p e s m args below meth c hx T' T'.vm ⟨locs, k1, X', eT', hS', hk1, hZ', hown', hC.trans hC2, hN, hO', hc, hl, ext_trans hX E, (fun q => by rw [q] at hmem; cases hmem), hEL2⟩).pre stp
  obtain ⟨n1, n2⟩ := hne x (hO' x hx).2.2
  rcases F with F | F
  · exact n1 F
  · cases Fld.uniq F hFv; exact n2 rfl
/-! ## System.arraycopy -/
theorem take_drop (vs : List Value) (d : Value) (i len : Nat) (q : i + len ≤ vs.length) : (List.range len).map (fun j => vs.getD (i + j) d) = (vs.drop i).take len := by
  apply List.ext_getElem
  · simp; omega
  · intro j h1 h2
    simp at h1
    simp [List.getD, List.getElem?_eq_getElem (show i + j < vs.length by omega)]
theorem Wp.acopy (ok : TabOk M.2.1 tb) {index i j len : Nat} {jo jq jn : Int32} {ty : FieldType} {vs vd : List Value} {rest : List Value} (A : Ar Z h a ty vs) (B : Ar Z h b ty vd) (hb : b ∈ W) (hty : refKind ty = false) (ho : jo = Int32.ofNat i) (hq : jq = Int32.ofNat j) (hn : jn = Int32.ofNat len) (h4 : i + len ≤ vs.length) (h5 : j + len ≤ vd.length)
    (w1 : (Jvm.Cond.methodLink M.1.cls index Jvm.Stand.acN).before a0 Z = true) (w2 : (Jvm.Cond.native Jvm.Stand.acN).before a0 Z = true) (w3 : (Jvm.Cond.static Jvm.Stand.acN).before a0 Z = true) (w4 : (Jvm.Cond.initialized "java/lang/System").before a0 Z = true)
    (hf : fnd tb pc = some (.invokestatic index, 3)) (hst : st = .int jn :: .int jq :: .ref b :: .int jo :: .ref a :: rest) (hsz : Ls.size = M.2.2.1) (hfr : 1 ≤ R.frames) (hlo : (rest.map fun v => v.category).sum + (nativeFrameWords "java/lang/System" "arraycopy" 5 + 11) ≤ R.locals)
    (K : ∀ h', Keep h h' [b] → Ar Z h' b ty (vd.take j ++ (vs.drop i).take len ++ vd.drop (j + len)) → Wx l Z EL M R h' W k n (pc + 3) Ls rest Q) : Wx l Z EL M R h W k n pc Ls st Q := by
  subst hst ho hq hn
  intro p e s m args below meth c hc T vm0 H
  obtain ⟨locs, k0, X, eT, hS, hk, hZ, hown, hC, hN, hO, q1, q2, hX, hWH, hEL⟩ := H
  have l1 := A.len
  have l2 := B.len
  obtain ⟨ka, A1⟩ := A.arv (.int 0)
  obtain ⟨kb, B1⟩ := B.arv (.int 0)
  have e1 : (Int32.ofNat i).toNatClampNeg = i := XT.n32 (by omega)
  have e2 : (Int32.ofNat j).toNatClampNeg = j := XT.n32 (by omega)
  have e3 : (Int32.ofNat len).toNatClampNeg = len := XT.n32 (by omega)
  have e4 : (Int32.ofNat vs.length).toNatClampNeg = vs.length := XT.n32 l1
  have e5 : (Int32.ofNat vd.length).toNatClampNeg = vd.length := XT.n32 l2
  obtain ⟨T', h', L, X', eT', N', K', A', stp⟩ := cpA X hc.1 hZ hown w1 w2 w3 w4 eT A1 B1 (us := (vs.drop i).take len) (Or.inl ⟨rfl, hty⟩) (Int32.ofNat_not_neg (by omega)) (Int32.ofNat_not_neg (by omega)) (Int32.ofNat_not_neg (by omega)) (by rw [e1, e3, e4]; exact h4) (by rw [e2, e3, e5]; exact h5) (by rw [e1, e3, take_drop _ _ _ _ h4]) (by rw [e2, e3]; exact h5) hN (hO b hb).1
    (g := mkF m pc Ls (.int (Int32.ofNat len) :: .int (Int32.ofNat j) :: .ref b :: .int (Int32.ofNat i) :: .ref a :: rest)) rfl (by rw [hc.2.2.1]; exact hsz) rfl (by rw [hc.2.1]; exact fnd_ok ok hf) hfr (W := (rest.map fun v => v.category).sum) (by show 2 * 0 + _ ≤ _; simp) hlo
  rw [e2, e3] at A'
  have C2 := CHr.keep K' (allS (hO b hb).2.2 all0) hC.1
  refine (K h' K' (Ar.of_arv A' ?_) p e s m args below meth c hc T' vm0 ⟨L, k0, X', eT', hS, Nat.le_trans hk K'.1, hZ, hown, hC.trans C2, N', Own.later C2 hO, q1, q2, ext_keep hX K' (allS (hO b hb).1 all0), hWH, hEL⟩).pre stp
  rw [e5]; simp; omega
end
end Jvm.Pilot.@@N@@.Kw
namespace Jvm.Pilot.@@N@@.Kw
open Jvm Jvm.ClassFile Sem Op Lib Jvm.Free Jvm.Stand Jvm.LawKit Jvm.RoadKit Bundle
/-! ## lists -/
theorem fill_step {cs : List Int32} {i : Nat} {c : Int32} (hc : cs[i]? = some c) (d : Value) (hd : d = .int 0) : (byt (cs.take i) ++ List.replicate (cs.length - i) d).set i (bt c) = byt (cs.take (i + 1)) ++ List.replicate (cs.length - (i + 1)) d := by
  have hi : i < cs.length := (List.getElem?_eq_some_iff.mp hc).1
  have e1 : (byt (cs.take i)).length = i := by simp; omega
  have e2 : cs.length - i = (cs.length - (i + 1)) + 1 := by omega
  rw [List.set_append_right _ _ (by rw [e1]; exact Nat.le_refl _), e1, Nat.sub_self, e2, List.replicate_succ, List.set_cons_zero, List.take_add_one, hc]
  simp
theorem list_all {xs ys : List Int32} (hl : xs.length = ys.length) (q : ∀ j, j < xs.length → xs[j]? = ys[j]?) : xs = ys := by
  apply List.ext_getElem? 
  intro j
  by_cases h : j < xs.length
  · exact q j h
  · rw [List.getElem?_eq_none (by omega), List.getElem?_eq_none (by omega)]
theorem Str.uniq {Z : State} {h : Heap} {a : Addr} {cs ds : List Int32} (S : Str Z h a cs) (T : Str Z h a ds) : cs = ds := by
  obtain ⟨q1, q2, q3, b, q4, q5⟩ := S
  obtain ⟨r1, r2, r3, d, r4, r5⟩ := T
  cases Fld.uniq q4 r4
  obtain ⟨c, A, e, -⟩ := q5
  obtain ⟨c', A', e', -⟩ := r5
  cases A.1.symm.trans A'.1
  refine byt_inj q1 r1 ?_
  have := e.symm.trans e'
  simpa using this
end Jvm.Pilot.@@N@@.Kw
namespace Jvm.Pilot.@@N@@.Kw
/-! ## the first place of a char from k on, as indexOf says it -/
def ixF : List Int32 → Int32 → Nat → Int32
  | [], _, _ => -1
  | x :: xs, c, k => if x = c then Int32.ofNat k else ixF xs c (k + 1)
theorem ixF_cons {cs : List Int32} {i : Nat} {x c : Int32} (q : cs[i]? = some x) : ixF (cs.drop i) c i = if x = c then Int32.ofNat i else ixF (cs.drop (i + 1)) c (i + 1) := by
  obtain ⟨hi, e⟩ := List.getElem?_eq_some_iff.mp q
  rw [List.drop_eq_getElem_cons hi, e]; rfl
end Jvm.Pilot.@@N@@.Kw
namespace Jvm.Pilot.@@N@@.Kw
open Jvm Jvm.ClassFile Sem Op Lib Jvm.Free Jvm.Stand Jvm.LawKit Jvm.RoadKit Bundle
/-- an array of known ints, read off the start's words -/
theorem ar_start {Z : State} {args : Array Value} {t : Term} {ty : FieldType} {vs : List Int32} (w0 : (Jvm.Cond.arrayOf t ty).before args Z = true) (w1 : (Jvm.Cond.eq (.length t) (.int (Int32.ofNat vs.length))).before args Z = true) (hl : vs.length < 2 ^ 31)
    (w2 : ∀ k v, vs[k]? = some v → (Jvm.Cond.eq (.elem t (.int (Int32.ofNat k))) (.int v)).before args Z = true) (hfit : ∀ v ∈ vs, fits ty (.int v) = true) : ∃ a, t.eval args Z none [] Z = some (.ref a) ∧ Ar Z Z.heap a ty (vs.map .int) := by
  have hlen := Cond.eq_int w1 rfl
  obtain ⟨sd, SA, hev, harrAt, -⟩ := Term.length_spec hlen
  have h31 := SBG.length_lt hev harrAt hlen
  have hsz : SA.slots.size = vs.length := by
    have e : (Term.length t).eval args Z none [] Z = some (.int (Int32.ofNat SA.slots.size)) := by simp [Term.eval, hev, harrAt, h31]
    have h2 : Int32.ofNat SA.slots.size = Int32.ofNat vs.length := by simpa using Option.some.inj (e.symm.trans hlen)
    exact (n_eq h31 hl).mp h2
  obtain ⟨c, A⟩ := Arr.start hev (Cond.before_iff.mp w0)
  have hcell : Z.heap[sd]? = some SA := by
    simp only [State.arrayAt?, Option.bind_eq_bind] at harrAt
    cases q : Z.heap[sd]? with
    | none => simp [q] at harrAt
    | some x => simp only [q, Option.bind_some] at harrAt; grind
  cases hcell.symm.trans A.1
  refine ⟨sd, hev, SA, A, ?_, by simpa using hl, fun v hv => ?_⟩
  · apply Array.ext_getElem?
    intro j
    by_cases hj : j < vs.length
    · have e0 : vs[j]? = some vs[j] := List.getElem?_eq_getElem hj
      have e1 := Cond.eq_int (w2 j _ e0) rfl
      rw [SBG.elem_at (ix := .int (Int32.ofNat j)) hev harrAt (by omega) h31 rfl] at e1
      rw [e1]; simp [e0]
    · have e1 : SA.slots[j]? = none := Array.getElem?_eq_none (by rw [hsz]; exact Nat.le_of_not_lt hj)
      have e2 : ((vs.map Value.int).toArray)[j]? = none := Array.getElem?_eq_none (by simpa using Nat.le_of_not_lt hj)
      rw [e1, e2]
  · obtain ⟨x, hx, rfl⟩ := List.mem_map.mp hv
    exact hfit x hx
end Jvm.Pilot.@@N@@.Kw
namespace Jvm.Pilot.@@N@@.Kw
def fx : List Int32 → Int32 → Nat → Option Nat
  | [], _, _ => none
  | x :: xs, c, k => if x = c then some k else fx xs c (k + 1)
theorem ixF_fx (c : Int32) : ∀ (cs : List Int32) (k : Nat), ixF cs c k = match fx cs c k with | some i => Int32.ofNat i | none => -1
  | [], _ => rfl
  | x :: xs, k => by
    unfold ixF fx
    split
    · rfl
    · exact ixF_fx c xs (k + 1)
theorem ixF_some {cs : List Int32} {c : Int32} {k i : Nat} (q : fx cs c k = some i) : ixF cs c k = Int32.ofNat i := by rw [ixF_fx, q]
theorem ixF_none {cs : List Int32} {c : Int32} {k : Nat} (q : fx cs c k = none) : ixF cs c k = -1 := by rw [ixF_fx, q]
theorem fx_spec (c : Int32) : ∀ (cs : List Int32) (k : Nat), (∃ i, fx cs c k = some (k + i) ∧ cs[i]? = some c ∧ ∀ j, j < i → cs[j]? ≠ some c) ∨ (fx cs c k = none ∧ ∀ j : Nat, cs[j]? ≠ some c)
  | [], _ => Or.inr ⟨rfl, fun j => by simp⟩
  | x :: xs, k => by
    by_cases hx : x = c
    · exact Or.inl ⟨0, by unfold fx; rw [if_pos hx]; rfl, by rw [hx]; rfl, fun j hj => absurd hj (Nat.not_lt_zero _)⟩
    · rcases fx_spec c xs (k + 1) with ⟨i, e1, e2, e3⟩ | ⟨e1, e2⟩
      · refine Or.inl ⟨i + 1, by unfold fx; rw [if_neg hx, e1]; congr 1; omega, by simpa using e2, fun j hj => ?_⟩
        cases j with
        | zero => simpa using hx
        | succ j => simpa using e3 j (by omega)
      · refine Or.inr ⟨by unfold fx; rw [if_neg hx, e1], fun j => ?_⟩
        cases j with
        | zero => simpa using hx
        | succ j => simpa using e2 j
theorem fx_drop (c : Int32) (cs : List Int32) (m : Nat) : (∃ i, fx (cs.drop m) c m = some i ∧ m ≤ i ∧ cs[i]? = some c ∧ ∀ j, m ≤ j → j < i → cs[j]? ≠ some c) ∨ (fx (cs.drop m) c m = none ∧ ∀ j, m ≤ j → cs[j]? ≠ some c) := by
  rcases fx_spec c (cs.drop m) m with ⟨i, e1, e2, e3⟩ | ⟨e1, e2⟩
  · refine Or.inl ⟨m + i, e1, by omega, by simpa using e2, fun j h1 h2 => ?_⟩
    have := e3 (j - m) (by omega)
    rw [List.getElem?_drop, show m + (j - m) = j by omega] at this; exact this
  · refine Or.inr ⟨e1, fun j h1 => ?_⟩
    have := e2 (j - m)
    rw [List.getElem?_drop, show m + (j - m) = j by omega] at this; exact this
/-- the first c from k on, in facts -/
theorem fx_of {cs : List Int32} {c : Int32} {o : Nat} (h1 : cs[o]? = some c) (h2 : ∀ j, j < o → cs[j]? ≠ some c) : fx cs c 0 = some o := by
  rcases fx_spec c cs 0 with ⟨i, e1, e2, e3⟩ | ⟨e1, e2⟩
  · rw [e1, Nat.zero_add]
    rcases Nat.lt_trichotomy i o with q | q | q
    · exact absurd e2 (h2 i q)
    · rw [q]
    · exact absurd h1 (e3 o q)
  · exact absurd h1 (e2 o)
theorem fx_no {cs : List Int32} {c : Int32} (h : ∀ j : Nat, cs[j]? ≠ some c) : fx cs c 0 = none := by
  rcases fx_spec c cs 0 with ⟨i, e1, e2, e3⟩ | ⟨e1, e2⟩
  · exact absurd e2 (h i)
  · exact e1
/-- the hash tag's braces: the first '{' and the first '}' behind it, where a char stands between -/
def tg (ks : List Int32) : Option (Nat × Nat) := match fx ks 123 0 with
  | none => none
  | some o => (match fx (ks.drop (o + 1)) 125 (o + 1) with | some c => if o + 1 < c then some (o, c) else none | none => none)
theorem tg_no1 {ks : List Int32} (h : ∀ i : Nat, ks[i]? ≠ some 123) : tg ks = none := by unfold tg; rw [fx_no h]
theorem tg_no3 {ks : List Int32} {o : Nat} (h1 : ks[o]? = some 123) (h2 : ∀ j, j < o → ks[j]? ≠ some 123) (h : ∀ j, o + 1 ≤ j → ks[j]? ≠ some 125) : tg ks = none := by
  unfold tg; rw [fx_of h1 h2]
  rcases fx_drop 125 ks (o + 1) with ⟨i, e1, e2, e3, e4⟩ | ⟨e1, e2⟩
  · exact absurd e3 (h i e2)
  · simp only [e1]
theorem tg_no2 {ks : List Int32} {o : Nat} (h1 : ks[o]? = some 123) (h2 : ∀ j, j < o → ks[j]? ≠ some 123) (h : ks[o + 1]? = some 125) : tg ks = none := by
  unfold tg; rw [fx_of h1 h2]
  rcases fx_drop 125 ks (o + 1) with ⟨i, e1, e2, e3, e4⟩ | ⟨e1, e2⟩
  · simp only [e1]
    rw [if_neg]
    intro q
    exact e4 (o + 1) (Nat.le_refl _) q h
  · simp only [e1]
theorem tg_yes {ks : List Int32} {o j : Nat} (h1 : ks[o]? = some 123) (h2 : ∀ j, j < o → ks[j]? ≠ some 123) (h3 : ks[o + 1]? ≠ some 125) (h4 : o + 1 ≤ j) (h5 : ks[j]? = some 125) : ∃ c, tg ks = some (o, c) := by
  unfold tg; rw [fx_of h1 h2]
  rcases fx_drop 125 ks (o + 1) with ⟨i, e1, e2, e3, e4⟩ | ⟨e1, e2⟩
  · refine ⟨i, ?_⟩
    simp only [e1]
    rw [if_pos]
    rcases Nat.lt_or_eq_of_le e2 with q | q
    · exact q
    · rw [← q] at e3; exact absurd e3 h3
  · exact absurd h5 (e2 j h4)
theorem tg_inv {ks : List Int32} {o c : Nat} (h : tg ks = some (o, c)) : fx ks 123 0 = some o ∧ fx (ks.drop (o + 1)) 125 (o + 1) = some c ∧ o + 1 < c ∧ c < ks.length ∧ o < ks.length ∧ ks[o]? = some 123 ∧ ks[c]? = some 125 ∧ (∀ j, j < o → ks[j]? ≠ some 123) ∧ ∀ j, o + 1 ≤ j → j < c → ks[j]? ≠ some 125 := by
  unfold tg at h
  rcases fx_spec 123 ks 0 with ⟨i, e1, e2, e3⟩ | ⟨e1, e2⟩
  · rw [e1] at h
    rw [Nat.zero_add] at h e1
    rcases fx_drop 125 ks (i + 1) with ⟨d, f1, f2, f3, f4⟩ | ⟨f1, f2⟩
    · simp only [f1] at h
      split at h
      · rename_i q
        simp only [Option.some.injEq, Prod.mk.injEq] at h
        obtain ⟨rfl, rfl⟩ := h
        exact ⟨e1, f1, q, (List.getElem?_eq_some_iff.mp f3).1, (List.getElem?_eq_some_iff.mp e2).1, e2, f3, e3, f4⟩
      · cases h
    · simp only [f1] at h; cases h
  · rw [e1] at h; cases h
/-- where there is no tag: no '{', or no '}' behind it, or it stands right behind -/
theorem tg_none {ks : List Int32} (h : tg ks = none) : fx ks 123 0 = none ∨ ∃ o, fx ks 123 0 = some o ∧ o < ks.length ∧ (fx (ks.drop (o + 1)) 125 (o + 1) = none ∨ fx (ks.drop (o + 1)) 125 (o + 1) = some (o + 1)) := by
  unfold tg at h
  rcases fx_spec 123 ks 0 with ⟨i, e1, e2, e3⟩ | ⟨e1, e2⟩
  · rw [e1] at h
    rw [Nat.zero_add] at h e1
    refine Or.inr ⟨i, e1, (List.getElem?_eq_some_iff.mp e2).1, ?_⟩
    rcases fx_drop 125 ks (i + 1) with ⟨d, f1, f2, f3, f4⟩ | ⟨f1, f2⟩
    · simp only [f1] at h
      split at h
      · cases h
      · rename_i q; exact Or.inr (by rw [f1]; congr 1; omega)
    · exact Or.inl f1
  · exact Or.inl e1
end Jvm.Pilot.@@N@@.Kw
namespace Jvm.Pilot.@@N@@.Kw
open Jvm Jvm.ClassFile Sem Op Lib Jvm.Free Jvm.Stand Jvm.LawKit Jvm.RoadKit Bundle
section Calls3
variable {l : Launch} {Z : State} {EL : List (String × Nat)} {M : Mth} {R : Room} {h : Heap} {W : List Addr} {k n pc : Nat} {Ls : Array Slot} {st : List Value} {Q : Option Value → Heap → List Addr → Prop} {a0 : Array Value} {tb : Tab}
theorem Wp.callS3 (ok : TabOk M.2.1 tb) {M' : Mth} {rm : Room} {index : Nat} {W' : List Addr} {Q' : Option Value → Heap → List Addr → Prop} {argsL rest : List Value} {ps : List FieldType} {rt : Option FieldType} (C : Ct3 l Z EL M' rm argsL.toArray h W' Q') (hEL : EW Z a0 EL) (w1 : (Jvm.Cond.methodLink M.1.cls index M'.1).before a0 Z = true) (w2 : (Jvm.Cond.static M'.1).before a0 Z = true) (wz : (Jvm.Cond.initialized M'.1.cls).before a0 Z = true) (wc : (Jvm.Cond.code M'.1 M'.2.1 M'.2.2.1 M'.2.2.2).before a0 Z = true)
    (hf : fnd tb pc = some (.invokestatic index, 3)) (hst : st = argsL.reverse ++ rest) (hy : noH M'.1) (hd : parseMethodDescriptor M'.1.desc = some ⟨ps, rt⟩) (hlen : argsL.length = ps.length) (hsz : Ls.size = M.2.2.1) (hfr : rm.frames + 1 ≤ R.frames) (hl : (rest.map fun v => v.category).sum + (M'.2.2.1 + 11) + rm.locals ≤ R.locals) (hce : k + rm.cells ≤ R.cells) (hsl : n + rm.slots ≤ R.slots) (hW : ∀ a ∈ W', a ∈ W)
    (K : ∀ v h' Wo, Q' v h' Wo → h.size ≤ h'.size → Wx l Z EL M R h' (Wo ++ W) (k + rm.cells) (n + rm.slots) (pc + 3) Ls (v.toList ++ rest) Q) : Wx l Z EL M R h W k n pc Ls st Q := by
  subst hst
  refine Wp.call3 C hEL wc wz hfr hl hce hsl hW (fun {p e s vm0 m args below meth c T locs Pre Post} hc X eT hZ hown hB hpre => ?_) K
  exact callSS X hc.1 (y := M'.1) (bytes := M'.2.1) (maxL := M'.2.2.1) (ret := M'.2.2.2) hown (mvT (s := s.setVm vm0) hZ w1) (mvT (s := s.setVm vm0) hZ w2) (mvT (s := s.setVm vm0) hZ wz) (mvT (s := s.setVm vm0) hZ wc) hy hB (g := mkF m pc Ls (argsL.reverse ++ rest)) rfl (by rw [hc.2.2.1]; exact hsz) (argsL := argsL) (rest := rest) (lenOf hd hlen) rfl (by show 2 * 0 + _ ≤ _; simp) (by rw [hc.2.1]; exact fnd_ok ok hf) hpre
end Calls3
/-! ### strings of sixteen-bit chars -/
def W16 (cs : List Int32) : Prop := ∀ c ∈ cs, 0 ≤ c.toInt ∧ c.toInt ≤ 65535
theorem W16.at {cs : List Int32} (L : W16 cs) {i : Nat} {c : Int32} (q : cs[i]? = some c) : 0 ≤ c.toInt ∧ c.toInt ≤ 65535 := L c (List.mem_of_getElem? q)
theorem Lat.w16 {cs : List Int32} (L : Lat cs) : W16 cs := fun c hc => ⟨(L c hc).1, by have := (L c hc).2; omega⟩
def hi8 (c : Int32) : Int32 := lo8 (c >>> ((8 : Int32) &&& 31))
def u16 : List Int32 → List Value
  | [] => []
  | c :: cs => .int (lo8 c) :: .int (hi8 c) :: u16 cs
theorem u16_app : ∀ xs ys : List Int32, u16 (xs ++ ys) = u16 xs ++ u16 ys
  | [], _ => rfl
  | x :: xs, ys => by show _ :: _ :: u16 (xs ++ ys) = _; rw [u16_app xs ys]; rfl
theorem u16_len : ∀ cs : List Int32, (u16 cs).length = 2 * cs.length
  | [] => rfl
  | c :: cs => by show (u16 cs).length + 1 + 1 = _; rw [u16_len cs, List.length_cons]; omega
theorem u16_lo : ∀ (cs : List Int32) (i : Nat) {c : Int32}, cs[i]? = some c → (u16 cs)[2 * i]? = some (.int (lo8 c))
  | [], i, c, h => by simp at h
  | x :: xs, 0, c, h => by cases Option.some.inj h; rfl
  | x :: xs, i + 1, c, h => u16_lo xs i h
theorem u16_hi : ∀ (cs : List Int32) (i : Nat) {c : Int32}, cs[i]? = some c → (u16 cs)[2 * i + 1]? = some (.int (hi8 c))
  | [], i, c, h => by simp at h
  | x :: xs, 0, c, h => by cases Option.some.inj h; rfl
  | x :: xs, i + 1, c, h => u16_hi xs i h
theorem u16_step {cs : List Int32} {i : Nat} {c : Int32} (hc : cs[i]? = some c) : ((u16 (cs.take i) ++ List.replicate (2 * (cs.length - i)) (Value.int 0)).set (2 * i) (.int (lo8 c))).set (2 * i + 1) (.int (hi8 c)) = u16 (cs.take (i + 1)) ++ List.replicate (2 * (cs.length - (i + 1))) (Value.int 0) := by
  have hi : i < cs.length := (List.getElem?_eq_some_iff.mp hc).1
  have e1 : (u16 (cs.take i)).length = 2 * i := by rw [u16_len, List.length_take]; omega
  have e2 : cs.take (i + 1) = cs.take i ++ [c] := by rw [List.take_add_one, hc]; rfl
  have e3 : 2 * (cs.length - i) = 2 * (cs.length - (i + 1)) + 1 + 1 := by omega
  rw [e2, u16_app, e3, List.replicate_succ, List.replicate_succ]
  rw [List.set_append_right _ _ (by omega), e1, Nat.sub_self, List.set_cons_zero, List.set_append_right _ _ (by omega), e1, show 2 * i + 1 - 2 * i = 1 by omega]
  rw [List.append_assoc]; rfl
theorem c16_w {c : Int32} (q : 0 ≤ c.toInt ∧ c.toInt ≤ 65535) : c16 c = c := by
  have h := c_i2c c
  apply Int32.toInt_inj.mp
  show (c.toUInt32.toUInt16.toUInt32.toInt32).toInt = _
  omega
theorem fitw {c : Int32} (q : 0 ≤ c.toInt ∧ c.toInt ≤ 65535) : fits .char (.int c) = true := by
  simp only [fits, Bool.and_eq_true, decide_eq_true_eq, Int32.le_iff_toInt_le, show (0 : Int32).toInt = 0 from by decide, show (65535 : Int32).toInt = 65535 from by decide]; omega
theorem c16_rng (x : Int32) : 0 ≤ (c16 x).toInt ∧ (c16 x).toInt ≤ 65535 := by
  have h := c_i2c x
  have e : (c16 x).toInt = (x.toUInt32.toUInt16.toUInt32.toInt32).toInt := rfl
  omega
theorem n_shl1 {i : Nat} (hi : i < 2 ^ 30) : Int32.ofNat i <<< ((1 : Int32) &&& 31) = Int32.ofNat (2 * i) := by
  have h := c_ishl (Int32.ofNat i) 1 1 (by decide)
  rw [n_int (by omega)] at h
  apply Int32.toInt_inj.mp
  rw [n_int (by omega)]
  have b1 := (Int32.ofNat i <<< ((1 : Int32) &&& 31)).toInt_lt
  have b2 := (Int32.ofNat i <<< ((1 : Int32) &&& 31)).le_toInt
  omega
theorem n_shr1 {i : Nat} (hi : i < 2 ^ 31) : Int32.ofNat i >>> ((1 : Int32) &&& 31) = Int32.ofNat (i / 2) := by
  have h := c_ishr (Int32.ofNat i) 1 1 (by decide)
  rw [n_int hi] at h
  apply Int32.toInt_inj.mp
  rw [n_int (by omega), h]; omega
theorem u_char {c : Int32} (q : 0 ≤ c.toInt ∧ c.toInt ≤ 65535) : c16 (((lo8 c &&& (255 : Int32)) <<< ((0 : Int32) &&& 31)) ||| ((hi8 c &&& (255 : Int32)) <<< ((8 : Int32) &&& 31))) = c := by
  have a1 := c_i2b c
  have a2 := c_mask (lo8 c) 255 8 (by decide) (by decide)
  have a3 := c_ishl (lo8 c &&& 255) 0 0 (by decide)
  have b0 := c_ishr c 8 8 (by decide)
  have b1 := c_i2b (c >>> ((8 : Int32) &&& 31))
  have b2 := c_mask (hi8 c) 255 8 (by decide) (by decide)
  have b3 := c_ishl (hi8 c &&& 255) 8 8 (by decide)
  have e1 : (lo8 c).toInt = c.toInt8.toInt32.toInt := rfl
  have e2 : (hi8 c).toInt = (c >>> ((8 : Int32) &&& 31)).toInt8.toInt32.toInt := rfl
  rw [← e1] at a1
  rw [← e2] at b1
  generalize hA : (lo8 c &&& 255) <<< ((0 : Int32) &&& 31) = A at *
  generalize hB : (hi8 c &&& 255) <<< ((8 : Int32) &&& 31) = B at *
  have A1 := A.toInt_lt
  have A2 := A.le_toInt
  have B1 := B.toInt_lt
  have B2 := B.le_toInt
  have hA2 : A.toInt = c.toInt % 256 := by omega
  have hB2 : B.toInt = 256 * (c.toInt / 256) := by omega
  have o1 := c_or' A B 8 (by decide) 256 (by decide) (by omega) (by omega) (by omega)
  have o2 := (A ||| B).toInt_lt
  have o3 := (A ||| B).le_toInt
  have hO : A ||| B = c := Int32.toInt_inj.mp (by omega)
  rw [hO]; exact c16_w q
def StrU (Z : State) (h : Heap) (a : Addr) (cs : List Int32) : Prop := W16 cs ∧ Exa Z h a "java/lang/String" ∧ Fld Z h a "java/lang/String" "coder" "B" (.int 1) ∧ ∃ b, Fld Z h a "java/lang/String" "value" "[B" (.ref b) ∧ Ar Z h b .byte (u16 cs)
theorem StrU.w16 {Z : State} {h : Heap} {a : Addr} {cs : List Int32} (S : StrU Z h a cs) : W16 cs := S.1
theorem StrU.exa {Z : State} {h : Heap} {a : Addr} {cs : List Int32} (S : StrU Z h a cs) : Exa Z h a "java/lang/String" := S.2.1
theorem StrU.cod {Z : State} {h : Heap} {a : Addr} {cs : List Int32} (S : StrU Z h a cs) : Fld Z h a "java/lang/String" "coder" "B" (.int 1) := S.2.2.1
theorem StrU.val {Z : State} {h : Heap} {a : Addr} {cs : List Int32} (S : StrU Z h a cs) : ∃ b, Fld Z h a "java/lang/String" "value" "[B" (.ref b) ∧ Ar Z h b .byte (u16 cs) := S.2.2.2
theorem StrU.ext {Z : State} {h h' : Heap} {a : Addr} {cs : List Int32} (S : StrU Z h a cs) (E : Ext h h') : StrU Z h' a cs := by
  obtain ⟨q1, q2, q3, b, q4, q5⟩ := S
  exact ⟨q1, q2.ext E, q3.ext E, b, q4.ext E, q5.ext E⟩
def StrG (Z : State) (h : Heap) (a : Addr) (cs : List Int32) : Prop := Str Z h a cs ∨ StrU Z h a cs
theorem StrG.exa {Z : State} {h : Heap} {a : Addr} {cs : List Int32} (S : StrG Z h a cs) : Exa Z h a "java/lang/String" := S.elim (fun s => s.exa) (fun s => s.exa)
theorem StrG.w16 {Z : State} {h : Heap} {a : Addr} {cs : List Int32} (S : StrG Z h a cs) : W16 cs := S.elim (fun s => s.lat.w16) (fun s => s.w16)
theorem StrG.ext {Z : State} {h h' : Heap} {a : Addr} {cs : List Int32} (S : StrG Z h a cs) (E : Ext h h') : StrG Z h' a cs := S.elim (fun s => Or.inl (s.ext E)) (fun s => Or.inr (s.ext E))
def U16w (Z : State) : Prop := Sta Z Z.heap "java/lang/StringUTF16" "$assertionsDisabled" "Z" (.int 1) ∧ Sta Z Z.heap "java/lang/StringUTF16" "HI_BYTE_SHIFT" "I" (.int 0) ∧ Sta Z Z.heap "java/lang/StringUTF16" "LO_BYTE_SHIFT" "I" (.int 8)
/-- the first char above 255 -/
def Wide (cs : List Int32) (p : Nat) : Prop := ∃ c, cs[p]? = some c ∧ 255 < c.toInt ∧ ∀ j d, j < p → cs[j]? = some d → d.toInt ≤ 255
theorem lat_or_wide : ∀ {cs : List Int32}, W16 cs → Lat cs ∨ ∃ p, Wide cs p
  | [], _ => Or.inl Lat.nil
  | c :: cs, h => by
    have h0 := h c (List.mem_cons_self ..)
    by_cases q : c.toInt ≤ 255
    · rcases lat_or_wide (cs := cs) (fun x hx => h x (List.mem_cons_of_mem _ hx)) with r | ⟨p, d, e1, e2, e3⟩
      · exact Or.inl (Lat.cons ⟨h0.1, q⟩ r)
      · refine Or.inr ⟨p + 1, d, e1, e2, fun j x hj hx => ?_⟩
        cases j with
        | zero => cases Option.some.inj hx; exact q
        | succ j => exact e3 j x (by omega) hx
    · exact Or.inr ⟨0, c, rfl, by omega, fun j d hj => absurd hj (Nat.not_lt_zero _)⟩
theorem own_or {c d : Jvm.Cond} {args : Array Value} {first s : State} {o : Option Outcome} {idx : List Nat} (h1 : c.value args first o s idx = some false) (h : (Jvm.Cond.or c d).value args first o s idx = some true) : d.value args first o s idx = some true := by
  simpa [Jvm.Cond.value, h1] using h
theorem len_size {Z : State} {args : Array Value} {t : Term} {sd : Addr} {SA : Cell} {m : Nat} (hev : t.eval args Z none [] Z = some (.ref sd)) (harr : Z.arrayAt? sd = some SA) (hlen : (Term.length t).eval args Z none [] Z = some (.int (Int32.ofNat m))) (hm : m < 2 ^ 31) : SA.slots.size = m := by
  have h31 := SBG.length_lt hev harr hlen
  have e : (Term.length t).eval args Z none [] Z = some (.int (Int32.ofNat SA.slots.size)) := by simp [Term.eval, hev, harr, h31]
  have h2 : Int32.ofNat SA.slots.size = Int32.ofNat m := by simpa using Option.some.inj (e.symm.trans hlen)
  exact (n_eq h31 hm).mp h2
end Jvm.Pilot.@@N@@.Kw
namespace Jvm.Pilot.@@N@@
open Jvm Jvm.ClassFile Sem Op Lib Jvm.Free Jvm.Stand Jvm.LawKit Jvm.RoadKit Bundle Jvm.Pilot.@@N@@.Jvm.D Jvm.Pilot.@@N@@.Kw
def uv (k : Nat) : Int32 := if (48 ≤ k ∧ k ≤ 57) ∨ (65 ≤ k ∧ k ≤ 90) ∨ (97 ≤ k ∧ k ≤ 122) ∨ k = 45 ∨ k = 46 ∨ k = 95 ∨ k = 126 then 1 else 0
def tbl : List Int32 := (List.range 128).map uv
theorem tbl_len : tbl.length = 128 := by simp [tbl]
theorem tbl_at {k : Nat} (h : k < 128) : tbl[k]? = some (uv k) := by simp [tbl, h]
abbrev UP (c : Int32) : Prop := (48 ≤ c.toInt ∧ c.toInt ≤ 57) ∨ (65 ≤ c.toInt ∧ c.toInt ≤ 90) ∨ (97 ≤ c.toInt ∧ c.toInt ≤ 122) ∨ c.toInt = 45 ∨ c.toInt = 46 ∨ c.toInt = 95 ∨ c.toInt = 126
theorem uv_up {c : Int32} (h0 : 0 ≤ c.toInt) : uv c.toInt.toNat = if UP c then 1 else 0 := by
  unfold uv UP
  by_cases q : (48 ≤ c.toInt ∧ c.toInt ≤ 57) ∨ (65 ≤ c.toInt ∧ c.toInt ≤ 90) ∨ (97 ≤ c.toInt ∧ c.toInt ≤ 122) ∨ c.toInt = 45 ∨ c.toInt = 46 ∨ c.toInt = 95 ∨ c.toInt = 126
  · rw [if_pos q, if_pos (by omega)]
  · rw [if_neg q, if_neg (by omega)]
abbrev EL1 : List (String × Nat) := []
def Gd (Z : State) (a0 : Array Value) : Prop := (∀ d ∈ tables_1, d.before a0 Z = true) ∧ EW Z a0 EL1 ∧ (∃ v, Sta Z Z.heap "java/lang/String" "COMPACT_STRINGS" "Z" (.int v) ∧ ¬ v = 0) ∧ (∃ f, Sta Z Z.heap "jdk/internal/util/Preconditions" "SIOOBE_FORMATTER" "Ljava/util/function/BiFunction;" f ∧ f.isRef = true) ∧ U16w Z ∧ ∃ ua, Sta Z Z.heap "countersign/canonical/Percent" "UNRESERVED" "[Z" (.ref ua) ∧ Ar Z Z.heap ua .boolean (tbl.map .int)
abbrev mt_cmp5 : Mth := (⟨"java/lang/StringUTF16", "compress", "([CI[BII)I"⟩, jdk_52_method_21_code, 7, some .int)
def tb_cmp5 : Tab := [(0, .iconst 0, 1), (1, .istore 5, 2), (3, .iload 5, 2), (5, .iload 4, 2), (7, .if_icmp .ge 37, 3), (10, .aload_n 0, 1), (11, .iload_n 1, 1), (12, .caload, 1), (13, .istore 6, 2), (15, .iload 6, 2), (17, .sipush 255, 3), (20, .if_icmp .le 6, 3), (23, .iload 5, 2), (25, .ireturn, 1), (26, .aload_n 2, 1), (27, .iload_n 3, 1), (28, .iload 6, 2), (30, .i2b, 1), (31, .bastore, 1), (32, .iinc 1 1, 3), (35, .iinc 3 1, 3), (38, .iinc 5 1, 3), (41, .goto (-38), 3), (44, .iload 4, 2), (46, .ireturn, 1)]
theorem ok_cmp5 : TabOk mt_cmp5.2.1 tb_cmp5 := by
  intro x hx
  have q : tb_cmp5.all (fun x => decide (decode jdk_52_method_21_code x.1 = .ok x.2)) = true := by decide +kernel
  exact of_decide_eq_true (List.all_eq_true.mp q x hx)
theorem pl_cmp5 : plainFor mt_cmp5.1 = true := by first | decide +kernel | exact plainFor_of_name (by first | (simp [plainName, overriddenIn]; done) | decide +kernel)
theorem pd_cmp5 : parseMethodDescriptor "([CI[BII)I" = some ⟨[(.array .char), .int, (.array .byte), .int, .int], some .int⟩ := by decide +kernel

set_option maxRecDepth 65536 in
set_option maxHeartbeats 4000000 in
theorem lp_cmp5 {l : Launch} {Z : State} {a0 : Array Value} (G : Gd Z a0) {b d : Addr} {cs : List Int32} {h : Heap} (hlat : Lat cs) (hl31 : cs.length < 2 ^ 31) (A : Ar Z h b .char (cs.map .int)) (hbd : b ≠ d) : ∀ (r i : Nat), i + r = cs.length → ∀ (z : Slot), Sl1 z → ∀ h1, Keep h h1 [d] → Ar Z h1 d .byte (byt (cs.take i) ++ List.replicate (cs.length - i) (.int 0)) →
    Wp l Z EL1 mt_cmp5 ({ frames := 0, cells := 0, slots := 0, locals := 0 } : Room) h1 [d] 0 0 3 #[.val (.ref b), .val (.int (Int32.ofNat i)), .val (.ref d), .val (.int (Int32.ofNat i)), .val (.int (Int32.ofNat cs.length)), .val (.int (Int32.ofNat i)), z] [] (fun v h' => v = some (.int (Int32.ofNat cs.length)) ∧ Keep h h' [d] ∧ Ar Z h' d .byte (byt cs)) := by
  intro r
  induction r with
  | zero =>
    intro i hi z hz h1 K1 B1
    obtain rfl : i = cs.length := by omega
    refine Wp.run ok_cmp5 2 7 #[.val (.ref b), .val (.int (Int32.ofNat cs.length)), .val (.ref d), .val (.int (Int32.ofNat cs.length)), .val (.int (Int32.ofNat cs.length)), .val (.int (Int32.ofNat cs.length)), z] [(.int (Int32.ofNat cs.length)), (.int (Int32.ofNat cs.length))] rfl ?_
    refine Wp.icmpT ok_cmp5 44 rfl rfl (show ¬ (Int32.ofNat cs.length) < (Int32.ofNat cs.length) from Int32.lt_irrefl) (by decide) (by decide) ?_
    refine Wp.run ok_cmp5 1 46 #[.val (.ref b), .val (.int (Int32.ofNat cs.length)), .val (.ref d), .val (.int (Int32.ofNat cs.length)), .val (.int (Int32.ofNat cs.length)), .val (.int (Int32.ofNat cs.length)), z] [(.int (Int32.ofNat cs.length))] rfl ?_
    exact Wp.retI ok_cmp5 (t := .int) rfl (by decide) rfl rfl rfl ⟨rfl, K1, by simpa using B1⟩
  | succ r ih =>
    intro i hi z hz h1 K1 B1
    obtain ⟨c, hc⟩ : ∃ c, cs[i]? = some c := ⟨_, List.getElem?_eq_getElem (by omega)⟩
    refine Wp.run ok_cmp5 2 7 #[.val (.ref b), .val (.int (Int32.ofNat i)), .val (.ref d), .val (.int (Int32.ofNat i)), .val (.int (Int32.ofNat cs.length)), .val (.int (Int32.ofNat i)), z] [(.int (Int32.ofNat cs.length)), (.int (Int32.ofNat i))] rfl ?_
    refine Wp.icmpF ok_cmp5 rfl rfl (show (Int32.ofNat i) < (Int32.ofNat cs.length) from (n_lt (by omega) (by omega)).mpr (by omega)) ?_
    refine Wp.run ok_cmp5 2 12 #[.val (.ref b), .val (.int (Int32.ofNat i)), .val (.ref d), .val (.int (Int32.ofNat i)), .val (.int (Int32.ofNat cs.length)), .val (.int (Int32.ofNat i)), z] [(.int (Int32.ofNat i)), (.ref b)] rfl ?_
    refine Wp.aget ok_cmp5 (A.keep K1 (ninS hbd nin0)) (i := i) (v := (.int c)) rfl (by simp [hc]) rfl rfl rfl ?_
    refine Wp.istoreS ok_cmp5 hz rfl rfl rfl ?_
    refine Wp.run ok_cmp5 2 20 #[.val (.ref b), .val (.int (Int32.ofNat i)), .val (.ref d), .val (.int (Int32.ofNat i)), .val (.int (Int32.ofNat cs.length)), .val (.int (Int32.ofNat i)), .val (.int c)] [(.int (255 : Int32)), (.int c)] rfl ?_
    refine Wp.icmpT ok_cmp5 26 rfl rfl (show ¬ (255 : Int32) < c from Int32.not_lt.mpr (Int32.le_iff_toInt_le.mpr (by have := (hlat.at hc).2; simpa using this))) (by decide) (by decide) ?_
    refine Wp.run ok_cmp5 4 31 #[.val (.ref b), .val (.int (Int32.ofNat i)), .val (.ref d), .val (.int (Int32.ofNat i)), .val (.int (Int32.ofNat cs.length)), .val (.int (Int32.ofNat i)), .val (.int c)] [(.int (lo8 c)), (.int (Int32.ofNat i)), (.ref d)] rfl ?_
    refine Wp.aput ok_cmp5 B1 (List.mem_of_getElem? (i := 0) rfl) (i := i) rfl (by simp; omega) rfl (fits_bt c) rfl rfl rfl ?_
    intro h2 w2 B2
    refine Wp.run ok_cmp5 4 3 #[.val (.ref b), .val (.int ((Int32.ofNat i) + (1 : Int32))), .val (.ref d), .val (.int ((Int32.ofNat i) + (1 : Int32))), .val (.int (Int32.ofNat cs.length)), .val (.int ((Int32.ofNat i) + (1 : Int32))), .val (.int c)] [] rfl ?_
    refine Wp.at #[.val (.ref b), .val (.int (Int32.ofNat (i + 1))), .val (.ref d), .val (.int (Int32.ofNat (i + 1))), .val (.int (Int32.ofNat cs.length)), .val (.int (Int32.ofNat (i + 1))), .val (.int c)] [] ⟨by simp only [n_succ], rfl⟩ ?_
    refine ih (i + 1) (by omega) _ (Sl1.int _) h2 (K1.trans (wr_keep w2) (fun x hx => Or.inl hx)) ?_
    have q : (byt (cs.take i) ++ List.replicate (cs.length - i) (Value.int 0)).set i (bt c) = byt (cs.take (i + 1)) ++ List.replicate (cs.length - (i + 1)) (Value.int 0) := fill_step hc _ rfl
    rw [← q]; exact B2

set_option maxRecDepth 65536 in
set_option maxHeartbeats 4000000 in
theorem ct_cmp5 {l : Launch} {Z : State} {a0 : Array Value} (G : Gd Z a0) {b d : Addr} {cs : List Int32} (hlat : Lat cs) (h : Heap) (hl31 : cs.length < 2 ^ 31) (A : Ar Z h b .char (cs.map .int)) (B : Ar Z h d .byte (List.replicate cs.length (.int 0))) :
    Ct l Z EL1 mt_cmp5 ({ frames := 0, cells := 0, slots := 0, locals := 0 } : Room) #[(.ref b), (.int 0), (.ref d), (.int 0), (.int (Int32.ofNat cs.length))] h [d] (fun v h' => v = some (.int (Int32.ofNat cs.length)) ∧ Keep h h' [d] ∧ Ar Z h' d .byte (byt cs)) := by
  refine Ct.of_wp pl_cmp5 G.2.1 (Ls := #[.val (.ref b), .val (.int 0), .val (.ref d), .val (.int 0), .val (.int (Int32.ofNat cs.length)), .unset, .unset]) rfl ?_
  refine Wp.run ok_cmp5 2 3 #[.val (.ref b), .val (.int 0), .val (.ref d), .val (.int 0), .val (.int (Int32.ofNat cs.length)), .val (.int (0 : Int32)), .unset] [] rfl ?_
  refine Wp.at #[.val (.ref b), .val (.int 0), .val (.ref d), .val (.int 0), .val (.int (Int32.ofNat cs.length)), .val (.int (0 : Int32)), .unset] [] ⟨rfl, rfl⟩ ?_
  exact lp_cmp5 G hlat hl31 A (fun q => by subst q; obtain ⟨c1, A1, -⟩ := A; obtain ⟨c2, A2, -⟩ := B; exact absurd (arr_ty A1 A2) (by decide)) cs.length 0 (by omega) _ Sl1.unset h (Keep.refl _ _) (by simpa using B)

abbrev mt_cmp3 : Mth := (⟨"java/lang/StringUTF16", "compress", "([CII)[B"⟩, jdk_52_method_16_code, 6, some (.array .byte))
def tb_cmp3 : Tab := [(0, .iload_n 2, 1), (1, .newarray .byte, 2), (3, .astore_n 3, 1), (4, .aload_n 0, 1), (5, .iload_n 1, 1), (6, .aload_n 3, 1), (7, .iconst 0, 1), (8, .iload_n 2, 1), (9, .invokestatic 115, 3), (12, .istore 4, 2), (14, .iload 4, 2), (16, .iload_n 2, 1), (17, .if_icmp .eq 40, 3), (20, .aload_n 0, 1), (21, .iload_n 1, 1), (22, .iload_n 2, 1), (23, .invokestatic 119, 3), (26, .astore 5, 2), (28, .aload 5, 2), (30, .iload 4, 2), (32, .invokestatic 71, 3), (35, .sipush 255, 3), (38, .if_icmp .gt 16, 3), (41, .aload 5, 2), (43, .iconst 0, 1), (44, .aload_n 3, 1), (45, .iconst 0, 1), (46, .iload_n 2, 1), (47, .invokestatic 123, 3), (50, .iload_n 2, 1), (51, .if_icmp .eq 6, 3), (54, .aload 5, 2), (56, .areturn, 1), (57, .aload_n 3, 1), (58, .areturn, 1)]
theorem ok_cmp3 : TabOk mt_cmp3.2.1 tb_cmp3 := by
  intro x hx
  have q : tb_cmp3.all (fun x => decide (decode jdk_52_method_16_code x.1 = .ok x.2)) = true := by decide +kernel
  exact of_decide_eq_true (List.all_eq_true.mp q x hx)
theorem pl_cmp3 : plainFor mt_cmp3.1 = true := by first | decide +kernel | exact plainFor_of_name (by first | (simp [plainName, overriddenIn]; done) | decide +kernel)
theorem pd_cmp3 : parseMethodDescriptor "([CII)[B" = some ⟨[(.array .char), .int, .int], some (.array .byte)⟩ := by decide +kernel

set_option maxRecDepth 65536 in
set_option maxHeartbeats 4000000 in
theorem ct_cmp3 {l : Launch} {Z : State} {a0 : Array Value} (G : Gd Z a0) {b : Addr} {cs : List Int32} (hlat : Lat cs) (hcap : cs.length ≤ 16) (h : Heap) (A : Ar Z h b .char (cs.map .int)) :
    Ct l Z EL1 mt_cmp3 ({ frames := 1, cells := 1, slots := 16, locals := 18 } : Room) #[(.ref b), (.int 0), (.int (Int32.ofNat cs.length))] h [] (fun v h' => ∃ d, v = some (.ref d) ∧ Ext h h' ∧ Ar Z h' d .byte (byt cs) ∧ h.size ≤ d) := by
  refine Ct.of_wp pl_cmp3 G.2.1 (Ls := #[.val (.ref b), .val (.int 0), .val (.int (Int32.ofNat cs.length)), .unset, .unset, .unset]) rfl ?_
  refine Wp.run ok_cmp3 1 1 #[.val (.ref b), .val (.int 0), .val (.int (Int32.ofNat cs.length)), .unset, .unset, .unset] [(.int (Int32.ofNat cs.length))] rfl ?_
  refine Wp.newP ok_cmp3 (len := cs.length) (cap := 16) (G.1 _ (List.mem_of_getElem? (i := 24) rfl)) rfl rfl rfl hcap (Nat.le_of_ble_eq_true rfl) (Nat.le_of_ble_eq_true rfl) (Nat.le_of_ble_eq_true rfl) ?_
  intro h1 E1 B1
  refine Wp.run ok_cmp3 6 9 #[.val (.ref b), .val (.int 0), .val (.int (Int32.ofNat cs.length)), .val (.ref h.size), .unset, .unset] [(.int (Int32.ofNat cs.length)), (.int (0 : Int32)), (.ref h.size), (.int 0), (.ref b)] rfl ?_
  refine Wp.callS ok_cmp3 (argsL := [(.ref b), (.int 0), (.ref h.size), (.int (0 : Int32)), (.int (Int32.ofNat cs.length))]) (rest := []) (ct_cmp5 G hlat h1 (by omega) (A.ext E1) B1) G.2.1 (G.1 _ (List.mem_of_getElem? (i := 25) rfl)) (G.1 _ (List.mem_of_getElem? (i := 26) rfl)) (G.1 _ (List.mem_of_getElem? (i := 22) rfl)) (G.1 _ (List.mem_of_getElem? (i := 27) rfl)) rfl rfl (by decide) pd_cmp5 rfl rfl (Nat.le_of_ble_eq_true rfl) (Nat.le_of_ble_eq_true rfl) (Nat.le_of_ble_eq_true rfl) (Nat.le_of_ble_eq_true rfl) (allS (List.mem_of_getElem? (i := 0) rfl) all0) ?_
  rintro _ h2 ⟨rfl, K2, B2⟩ -
  refine Wp.run ok_cmp3 3 17 #[.val (.ref b), .val (.int 0), .val (.int (Int32.ofNat cs.length)), .val (.ref h.size), .val (.int (Int32.ofNat cs.length)), .unset] [(.int (Int32.ofNat cs.length)), (.int (Int32.ofNat cs.length))] rfl ?_
  refine Wp.icmpT ok_cmp3 57 rfl rfl (show (Int32.ofNat cs.length) = (Int32.ofNat cs.length) from rfl) (by decide) (by decide) ?_
  refine Wp.run ok_cmp3 1 58 #[.val (.ref b), .val (.int 0), .val (.int (Int32.ofNat cs.length)), .val (.ref h.size), .val (.int (Int32.ofNat cs.length)), .unset] [(.ref h.size)] rfl ?_
  exact Wp.retA ok_cmp3 (t := (.array .byte)) rfl rfl rfl rfl rfl ⟨_, rfl, ext_keep E1 K2 (all1 (Nat.le_refl _)), B2, Nat.le_refl _⟩

abbrev mt_cfal : Mth := (⟨"java/lang/StringUTF16", "coderFromArrayLen", "([BI)B"⟩, jdk_52_method_15_code, 2, some .byte)
def tb_cfal : Tab := [(0, .iload_n 1, 1), (1, .aload_n 0, 1), (2, .arraylength, 1), (3, .isub, 1), (4, .bipush 31, 2), (6, .iushr, 1), (7, .i2b, 1), (8, .ireturn, 1)]
theorem ok_cfal : TabOk mt_cfal.2.1 tb_cfal := by
  intro x hx
  have q : tb_cfal.all (fun x => decide (decode jdk_52_method_15_code x.1 = .ok x.2)) = true := by decide +kernel
  exact of_decide_eq_true (List.all_eq_true.mp q x hx)
theorem pl_cfal : plainFor mt_cfal.1 = true := by first | decide +kernel | exact plainFor_of_name (by first | (simp [plainName, overriddenIn]; done) | decide +kernel)
theorem pd_cfal : parseMethodDescriptor "([BI)B" = some ⟨[(.array .byte), .int], some .byte⟩ := by decide +kernel

set_option maxRecDepth 65536 in
set_option maxHeartbeats 4000000 in
theorem ct_cfal {l : Launch} {Z : State} {a0 : Array Value} (G : Gd Z a0) {d : Addr} {vs : List Value} (h : Heap) (B : Ar Z h d .byte vs) :
    Ct l Z EL1 mt_cfal ({ frames := 0, cells := 0, slots := 0, locals := 0 } : Room) #[(.ref d), (.int (Int32.ofNat vs.length))] h [] (fun v h' => v = some (.int 0) ∧ h = h') := by
  refine Ct.of_wp pl_cfal G.2.1 (Ls := #[.val (.ref d), .val (.int (Int32.ofNat vs.length))]) rfl ?_
  refine Wp.run ok_cfal 2 2 #[.val (.ref d), .val (.int (Int32.ofNat vs.length))] [(.ref d), (.int (Int32.ofNat vs.length))] rfl ?_
  refine Wp.alen ok_cfal B rfl rfl ?_
  refine Wp.run ok_cfal 4 8 #[.val (.ref d), .val (.int (Int32.ofNat vs.length))] [(.int (lo8 (ush ((Int32.ofNat vs.length) - (Int32.ofNat vs.length)) (31 : Int32))))] rfl ?_
  have q : lo8 (ush (Int32.ofNat vs.length - Int32.ofNat vs.length) 31) = 0 := by rw [Int32.sub_self]; decide
  refine Wp.at #[.val (.ref d), .val (.int (Int32.ofNat vs.length))] [(.int 0)] ⟨rfl, (by rw [show lo8 (ush (Int32.ofNat vs.length - Int32.ofNat vs.length) (31 : Int32)) = 0 from q] <;> rfl)⟩ ?_
  exact Wp.retI ok_cfal (t := .byte) rfl (by decide) rfl rfl rfl ⟨rfl, rfl⟩

abbrev mt_si4 : Mth := (⟨"java/lang/String", "<init>", "([CIILjava/lang/Void;)V"⟩, jdk_42_method_149_code, 6, none)
def tb_si4 : Tab := [(0, .aload_n 0, 1), (1, .invokespecial 1, 3), (4, .iload_n 3, 1), (5, .ifCond .ne 22, 3), (8, .aload_n 0, 1), (9, .ldc 7, 2), (11, .getfield 9, 3), (14, .putfield 9, 3), (17, .aload_n 0, 1), (18, .ldc 7, 2), (20, .getfield 15, 3), (23, .putfield 15, 3), (26, .return_, 1), (27, .getstatic 38, 3), (30, .ifCond .eq 28, 3), (33, .aload_n 1, 1), (34, .iload_n 2, 1), (35, .iload_n 3, 1), (36, .invokestatic 177, 3), (39, .astore 5, 2), (41, .aload_n 0, 1), (42, .aload 5, 2), (44, .iload_n 3, 1), (45, .invokestatic 47, 3), (48, .putfield 15, 3), (51, .aload_n 0, 1), (52, .aload 5, 2), (54, .putfield 9, 3), (57, .return_, 1), (58, .aload_n 0, 1), (59, .iconst 1, 1), (60, .putfield 15, 3), (63, .aload_n 0, 1), (64, .aload_n 1, 1), (65, .iload_n 2, 1), (66, .iload_n 3, 1), (67, .invokestatic 180, 3), (70, .putfield 9, 3), (73, .return_, 1)]
theorem ok_si4 : TabOk mt_si4.2.1 tb_si4 := by
  intro x hx
  have q : tb_si4.all (fun x => decide (decode jdk_42_method_149_code x.1 = .ok x.2)) = true := by decide +kernel
  exact of_decide_eq_true (List.all_eq_true.mp q x hx)
theorem pl_si4 : plainFor mt_si4.1 = true := by first | decide +kernel | exact plainFor_of_name (by first | (simp [plainName, overriddenIn]; done) | decide +kernel)
theorem pd_si4 : parseMethodDescriptor "([CIILjava/lang/Void;)V" = some ⟨[(.array .char), .int, .int, (.object "java/lang/Void")], none⟩ := by decide +kernel

set_option maxRecDepth 65536 in
set_option maxHeartbeats 4000000 in
theorem ct_si4 {l : Launch} {Z : State} {a0 : Array Value} (G : Gd Z a0) {a b : Addr} {cs : List Int32} (hlat : Lat cs) (hcap : cs.length ≤ 16) (hne : cs ≠ []) (h : Heap) (X0 : Exa Z h a "java/lang/String") (F1 : Fld Z h a "java/lang/String" "coder" "B" (.int 0)) {v0 : Value} (F2 : Fld Z h a "java/lang/String" "value" "[B" v0) (A : Ar Z h b .char (cs.map .int)) :
    Ct l Z EL1 mt_si4 ({ frames := 2, cells := 1, slots := 16, locals := 35 } : Room) #[(.ref a), (.ref b), (.int 0), (.int (Int32.ofNat cs.length)), .null] h [a] (fun v h' => v = none ∧ Keep h h' [a] ∧ Str Z h' a cs) := by
  refine Ct.of_wp pl_si4 G.2.1 (Ls := #[.val (.ref a), .val (.ref b), .val (.int 0), .val (.int (Int32.ofNat cs.length)), .val .null, .unset]) rfl ?_
  refine Wp.run ok_si4 1 1 #[.val (.ref a), .val (.ref b), .val (.int 0), .val (.int (Int32.ofNat cs.length)), .val .null, .unset] [(.ref a)] rfl ?_
  refine Wp.initO ok_si4 (G.1 _ (List.mem_of_getElem? (i := 16) rfl)) (G.1 _ (List.mem_of_getElem? (i := 17) rfl)) (G.1 _ (List.mem_of_getElem? (i := 18) rfl)) rfl rfl rfl (Nat.le_of_ble_eq_true rfl) (Nat.le_of_ble_eq_true rfl) ?_
  refine Wp.run ok_si4 1 5 #[.val (.ref a), .val (.ref b), .val (.int 0), .val (.int (Int32.ofNat cs.length)), .val .null, .unset] [(.int (Int32.ofNat cs.length))] rfl ?_
  refine Wp.ifT ok_si4 27 rfl rfl (show ¬ (Int32.ofNat cs.length) = (0 : Int32) from fun q => hne (List.length_eq_zero_iff.mp ((n_eq (by omega) (by decide)).mp q))) (by decide) (by decide) ?_
  obtain ⟨vC, fC, nC⟩ := G.2.2.1
  refine Wp.getS ok_si4 fC (G.1 _ (List.mem_of_getElem? (i := 19) rfl)) Via.refl rfl ?_
  refine Wp.ifF ok_si4 rfl rfl (show ¬ vC = (0 : Int32) from nC) ?_
  refine Wp.run ok_si4 3 36 #[.val (.ref a), .val (.ref b), .val (.int 0), .val (.int (Int32.ofNat cs.length)), .val .null, .unset] [(.int (Int32.ofNat cs.length)), (.int 0), (.ref b)] rfl ?_
  refine Wp.callS ok_si4 (argsL := [(.ref b), (.int 0), (.int (Int32.ofNat cs.length))]) (rest := []) (ct_cmp3 G hlat hcap h A) G.2.1 (G.1 _ (List.mem_of_getElem? (i := 20) rfl)) (G.1 _ (List.mem_of_getElem? (i := 21) rfl)) (G.1 _ (List.mem_of_getElem? (i := 22) rfl)) (G.1 _ (List.mem_of_getElem? (i := 23) rfl)) rfl rfl (by decide) pd_cmp3 rfl rfl (Nat.le_of_ble_eq_true rfl) (Nat.le_of_ble_eq_true rfl) (Nat.le_of_ble_eq_true rfl) (Nat.le_of_ble_eq_true rfl) all0 ?_
  rintro _ h1 ⟨d, rfl, E1, B1, hd⟩ -
  refine Wp.run ok_si4 4 45 #[.val (.ref a), .val (.ref b), .val (.int 0), .val (.int (Int32.ofNat cs.length)), .val .null, .val (.ref d)] [(.int (Int32.ofNat cs.length)), (.ref d), (.ref a)] rfl ?_
  have e0 : Int32.ofNat cs.length = Int32.ofNat (byt cs).length := by simp
  refine Wp.at #[.val (.ref a), .val (.ref b), .val (.int 0), .val (.int (Int32.ofNat cs.length)), .val .null, .val (.ref d)] [(.int (Int32.ofNat (byt cs).length)), (.ref d), (.ref a)] ⟨rfl, (by rw [← e0] <;> rfl)⟩ ?_
  refine Wp.callS ok_si4 (argsL := [(.ref d), (.int (Int32.ofNat (byt cs).length))]) (rest := [(.ref a)]) (ct_cfal G h1 B1) G.2.1 (G.1 _ (List.mem_of_getElem? (i := 28) rfl)) (G.1 _ (List.mem_of_getElem? (i := 29) rfl)) (G.1 _ (List.mem_of_getElem? (i := 22) rfl)) (G.1 _ (List.mem_of_getElem? (i := 30) rfl)) rfl rfl (by decide) pd_cfal rfl rfl (Nat.le_of_ble_eq_true rfl) (Nat.le_of_ble_eq_true rfl) (Nat.le_of_ble_eq_true rfl) (Nat.le_of_ble_eq_true rfl) all0 ?_
  rintro _ _ ⟨rfl, rfl⟩ -
  refine Wp.putF ok_si4 (ty := .byte) (F1.ext E1) (X0.ext E1) (List.mem_of_getElem? (i := 0) rfl) (G.1 _ (List.mem_of_getElem? (i := 31) rfl)) Via.refl (Or.inr ⟨(G.1 _ (List.mem_of_getElem? (i := 32) rfl)), rfl, rfl⟩) (G.1 _ (List.mem_of_getElem? (i := 7) rfl)) (by decide) rfl rfl rfl ?_
  intro h2 w2
  refine Wp.run ok_si4 2 54 #[.val (.ref a), .val (.ref b), .val (.int 0), .val (.int (Int32.ofNat cs.length)), .val .null, .val (.ref d)] [(.ref d), (.ref a)] rfl ?_
  refine Wp.putF ok_si4 (ty := (.array .byte)) ((F2.ext E1).other w2 (Or.inr (slot_ne (Or.inr (G.1 _ (List.mem_of_getElem? (i := 34) rfl))) (Or.inr (G.1 _ (List.mem_of_getElem? (i := 32) rfl))) (by decide) (t := (.array .byte)) (t' := .byte) (by decide) (by decide)))) ((X0.ext E1).wr w2) (List.mem_of_getElem? (i := 0) rfl) (G.1 _ (List.mem_of_getElem? (i := 33) rfl)) Via.refl (Or.inr ⟨(G.1 _ (List.mem_of_getElem? (i := 34) rfl)), rfl, rfl⟩) (G.1 _ (List.mem_of_getElem? (i := 7) rfl)) (by decide) rfl rfl rfl ?_
  intro h3 w3
  have hda : d ≠ a := fun q => by subst q; exact absurd X0.lt (Nat.not_lt.mpr hd)
  exact Wp.ret0 ok_si4 rfl rfl rfl ⟨rfl, (((Keep.refl h [a]).ext E1).trans (wr_keep w2) (fun x hx => Or.inl hx)).trans (wr_keep w3) (fun x hx => Or.inl hx), hlat, ((X0.ext E1).wr w2).wr w3, ((F1.ext E1).same w2).other w3 (Or.inr (slot_ne (Or.inr (G.1 _ (List.mem_of_getElem? (i := 32) rfl))) (Or.inr (G.1 _ (List.mem_of_getElem? (i := 34) rfl))) (by decide) (t := .byte) (t' := (.array .byte)) (by decide) (by decide))), d, ((F2.ext E1).other w2 (Or.inr (slot_ne (Or.inr (G.1 _ (List.mem_of_getElem? (i := 34) rfl))) (Or.inr (G.1 _ (List.mem_of_getElem? (i := 32) rfl))) (by decide) (t := (.array .byte)) (t' := .byte) (by decide) (by decide)))).same w3, (B1.other w2 hda).other w3 hda⟩

set_option maxRecDepth 65536 in
set_option maxHeartbeats 4000000 in
theorem lp_cmp5u {l : Launch} {Z : State} {a0 : Array Value} (G : Gd Z a0) {b d : Addr} {cs : List Int32} {p : Nat} {cw : Int32} {h : Heap} (hpc : cs[p]? = some cw) (hcw : 255 < cw.toInt) (hsm : ∀ j d, j < p → cs[j]? = some d → d.toInt ≤ 255) (hl31 : cs.length < 2 ^ 31) (A : Ar Z h b .char (cs.map .int)) (hbd : b ≠ d) : ∀ (r i : Nat), i + r = p → ∀ (z : Slot), Sl1 z → ∀ h1, Keep h h1 [d] → ∀ vs : List Value, vs.length = cs.length → Ar Z h1 d .byte vs →
    Wp l Z EL1 mt_cmp5 ({ frames := 0, cells := 0, slots := 0, locals := 0 } : Room) h1 [d] 0 0 3 #[.val (.ref b), .val (.int (Int32.ofNat i)), .val (.ref d), .val (.int (Int32.ofNat i)), .val (.int (Int32.ofNat cs.length)), .val (.int (Int32.ofNat i)), z] [] (fun v h' => v = some (.int (Int32.ofNat p)) ∧ Keep h h' [d]) := by
  have hpl := (List.getElem?_eq_some_iff.mp hpc).1
  intro r
  induction r with
  | zero =>
    intro i hi z hz h1 K1 vs hvs B1
    obtain rfl : i = p := by omega
    obtain ⟨c, hc, rfl⟩ : ∃ c, cs[i]? = some c ∧ c = cw := ⟨_, hpc, rfl⟩
    refine Wp.run ok_cmp5 2 7 #[.val (.ref b), .val (.int (Int32.ofNat i)), .val (.ref d), .val (.int (Int32.ofNat i)), .val (.int (Int32.ofNat cs.length)), .val (.int (Int32.ofNat i)), z] [(.int (Int32.ofNat cs.length)), (.int (Int32.ofNat i))] rfl ?_
    refine Wp.icmpF ok_cmp5 rfl rfl (show (Int32.ofNat i) < (Int32.ofNat cs.length) from (n_lt (by omega) (by omega)).mpr (by omega)) ?_
    refine Wp.run ok_cmp5 2 12 #[.val (.ref b), .val (.int (Int32.ofNat i)), .val (.ref d), .val (.int (Int32.ofNat i)), .val (.int (Int32.ofNat cs.length)), .val (.int (Int32.ofNat i)), z] [(.int (Int32.ofNat i)), (.ref b)] rfl ?_
    refine Wp.aget ok_cmp5 (A.keep K1 (ninS hbd nin0)) (i := i) (v := (.int c)) rfl (by simp [hc]) rfl rfl rfl ?_
    refine Wp.istoreS ok_cmp5 hz rfl rfl rfl ?_
    refine Wp.run ok_cmp5 2 20 #[.val (.ref b), .val (.int (Int32.ofNat i)), .val (.ref d), .val (.int (Int32.ofNat i)), .val (.int (Int32.ofNat cs.length)), .val (.int (Int32.ofNat i)), .val (.int c)] [(.int (255 : Int32)), (.int c)] rfl ?_
    refine Wp.icmpF ok_cmp5 rfl rfl (show (255 : Int32) < c from Int32.lt_iff_toInt_lt.mpr (by rw [show (255 : Int32).toInt = 255 from by decide]; exact hcw)) ?_
    refine Wp.run ok_cmp5 1 25 #[.val (.ref b), .val (.int (Int32.ofNat i)), .val (.ref d), .val (.int (Int32.ofNat i)), .val (.int (Int32.ofNat cs.length)), .val (.int (Int32.ofNat i)), .val (.int c)] [(.int (Int32.ofNat i))] rfl ?_
    exact Wp.retI ok_cmp5 (t := .int) rfl (by decide) rfl rfl rfl ⟨rfl, K1⟩
  | succ r ih =>
    intro i hi z hz h1 K1 vs hvs B1
    obtain ⟨c, hc⟩ : ∃ c, cs[i]? = some c := ⟨_, List.getElem?_eq_getElem (by omega)⟩
    refine Wp.run ok_cmp5 2 7 #[.val (.ref b), .val (.int (Int32.ofNat i)), .val (.ref d), .val (.int (Int32.ofNat i)), .val (.int (Int32.ofNat cs.length)), .val (.int (Int32.ofNat i)), z] [(.int (Int32.ofNat cs.length)), (.int (Int32.ofNat i))] rfl ?_
    refine Wp.icmpF ok_cmp5 rfl rfl (show (Int32.ofNat i) < (Int32.ofNat cs.length) from (n_lt (by omega) (by omega)).mpr (by omega)) ?_
    refine Wp.run ok_cmp5 2 12 #[.val (.ref b), .val (.int (Int32.ofNat i)), .val (.ref d), .val (.int (Int32.ofNat i)), .val (.int (Int32.ofNat cs.length)), .val (.int (Int32.ofNat i)), z] [(.int (Int32.ofNat i)), (.ref b)] rfl ?_
    refine Wp.aget ok_cmp5 (A.keep K1 (ninS hbd nin0)) (i := i) (v := (.int c)) rfl (by simp [hc]) rfl rfl rfl ?_
    refine Wp.istoreS ok_cmp5 hz rfl rfl rfl ?_
    refine Wp.run ok_cmp5 2 20 #[.val (.ref b), .val (.int (Int32.ofNat i)), .val (.ref d), .val (.int (Int32.ofNat i)), .val (.int (Int32.ofNat cs.length)), .val (.int (Int32.ofNat i)), .val (.int c)] [(.int (255 : Int32)), (.int c)] rfl ?_
    refine Wp.icmpT ok_cmp5 26 rfl rfl (show ¬ (255 : Int32) < c from Int32.not_lt.mpr (Int32.le_iff_toInt_le.mpr (by simpa using hsm i c (by omega) hc))) (by decide) (by decide) ?_
    refine Wp.run ok_cmp5 4 31 #[.val (.ref b), .val (.int (Int32.ofNat i)), .val (.ref d), .val (.int (Int32.ofNat i)), .val (.int (Int32.ofNat cs.length)), .val (.int (Int32.ofNat i)), .val (.int c)] [(.int (lo8 c)), (.int (Int32.ofNat i)), (.ref d)] rfl ?_
    refine Wp.aput ok_cmp5 B1 (List.mem_of_getElem? (i := 0) rfl) (i := i) rfl (by omega) rfl (fits_bt c) rfl rfl rfl ?_
    intro h2 w2 B2
    refine Wp.run ok_cmp5 4 3 #[.val (.ref b), .val (.int ((Int32.ofNat i) + (1 : Int32))), .val (.ref d), .val (.int ((Int32.ofNat i) + (1 : Int32))), .val (.int (Int32.ofNat cs.length)), .val (.int ((Int32.ofNat i) + (1 : Int32))), .val (.int c)] [] rfl ?_
    refine Wp.at #[.val (.ref b), .val (.int (Int32.ofNat (i + 1))), .val (.ref d), .val (.int (Int32.ofNat (i + 1))), .val (.int (Int32.ofNat cs.length)), .val (.int (Int32.ofNat (i + 1))), .val (.int c)] [] ⟨by simp only [n_succ], rfl⟩ ?_
    exact ih (i + 1) (by omega) _ (Sl1.int _) h2 (K1.trans (wr_keep w2) (fun x hx => Or.inl hx)) _ (by rw [List.length_set]; exact hvs) B2

set_option maxRecDepth 65536 in
set_option maxHeartbeats 4000000 in
theorem ct_cmp5u {l : Launch} {Z : State} {a0 : Array Value} (G : Gd Z a0) {b d : Addr} {cs : List Int32} {p : Nat} (hp : Wide cs p) (h : Heap) (hl31 : cs.length < 2 ^ 31) (A : Ar Z h b .char (cs.map .int)) (B : Ar Z h d .byte (List.replicate cs.length (.int 0))) :
    Ct l Z EL1 mt_cmp5 ({ frames := 0, cells := 0, slots := 0, locals := 0 } : Room) #[(.ref b), (.int 0), (.ref d), (.int 0), (.int (Int32.ofNat cs.length))] h [d] (fun v h' => v = some (.int (Int32.ofNat p)) ∧ Keep h h' [d]) := by
  refine Ct.of_wp pl_cmp5 G.2.1 (Ls := #[.val (.ref b), .val (.int 0), .val (.ref d), .val (.int 0), .val (.int (Int32.ofNat cs.length)), .unset, .unset]) rfl ?_
  refine Wp.run ok_cmp5 2 3 #[.val (.ref b), .val (.int 0), .val (.ref d), .val (.int 0), .val (.int (Int32.ofNat cs.length)), .val (.int (0 : Int32)), .unset] [] rfl ?_
  refine Wp.at #[.val (.ref b), .val (.int 0), .val (.ref d), .val (.int 0), .val (.int (Int32.ofNat cs.length)), .val (.int (0 : Int32)), .unset] [] ⟨rfl, rfl⟩ ?_
  obtain ⟨cw, q1, q2, q3⟩ := hp
  exact lp_cmp5u G q1 q2 q3 hl31 A (fun q => by subst q; obtain ⟨c1, A1, -⟩ := A; obtain ⟨c2, A2, -⟩ := B; exact absurd (arr_ty A1 A2) (by decide)) p 0 (by omega) _ Sl1.unset h (Keep.refl _ _) _ (by simp) B

abbrev mt_pch : Mth := (⟨"java/lang/StringUTF16", "putChar", "([BII)V"⟩, jdk_52_method_4_code, 3, none)
def tb_pch : Tab := [(0, .getstatic 44, 3), (3, .ifCond .ne 25, 3), (6, .iload_n 1, 1), (7, .ifCond .lt 11, 3), (10, .iload_n 1, 1), (11, .aload_n 0, 1), (12, .invokestatic 48, 3), (15, .if_icmp .lt 13, 3), (18, .new 52, 3), (21, .dup, 1), (22, .ldc 54, 2), (24, .invokespecial 56, 3), (27, .athrow, 1), (28, .iload_n 1, 1), (29, .iconst 1, 1), (30, .ishl, 1), (31, .istore_n 1, 1), (32, .aload_n 0, 1), (33, .iload_n 1, 1), (34, .iinc 1 1, 3), (37, .iload_n 2, 1), (38, .getstatic 59, 3), (41, .ishr, 1), (42, .i2b, 1), (43, .bastore, 1), (44, .aload_n 0, 1), (45, .iload_n 1, 1), (46, .iload_n 2, 1), (47, .getstatic 63, 3), (50, .ishr, 1), (51, .i2b, 1), (52, .bastore, 1), (53, .return_, 1)]
theorem ok_pch : TabOk mt_pch.2.1 tb_pch := by
  intro x hx
  have q : tb_pch.all (fun x => decide (decode jdk_52_method_4_code x.1 = .ok x.2)) = true := by decide +kernel
  exact of_decide_eq_true (List.all_eq_true.mp q x hx)
theorem pl_pch : plainFor mt_pch.1 = true := by first | decide +kernel | exact plainFor_of_name (by first | (simp [plainName, overriddenIn]; done) | decide +kernel)
theorem pd_pch : parseMethodDescriptor "([BII)V" = some ⟨[(.array .byte), .int, .int], none⟩ := by decide +kernel

set_option maxRecDepth 65536 in
set_option maxHeartbeats 4000000 in
theorem ct_pch {l : Launch} {Z : State} {a0 : Array Value} (G : Gd Z a0) {b : Addr} {vs : List Value} {i : Nat} {c : Int32} (hi : 2 * i + 1 < vs.length) (h : Heap) (A : Ar Z h b .byte vs) :
    Ct l Z EL1 mt_pch ({ frames := 0, cells := 0, slots := 0, locals := 0 } : Room) #[(.ref b), (.int (Int32.ofNat i)), (.int c)] h [b] (fun v h' => v = none ∧ Keep h h' [b] ∧ Ar Z h' b .byte ((vs.set (2 * i) (.int (lo8 c))).set (2 * i + 1) (.int (hi8 c)))) := by
  refine Ct.of_wp pl_pch G.2.1 (Ls := #[.val (.ref b), .val (.int (Int32.ofNat i)), .val (.int c)]) rfl ?_
  have h31 := A.len
  obtain ⟨sA, sH, sL⟩ := G.2.2.2.2.1
  refine Wp.getS ok_pch sA (G.1 _ (List.mem_of_getElem? (i := 94) rfl)) Via.refl rfl ?_
  refine Wp.ifT ok_pch 28 rfl rfl (show ¬ 1 = (0 : Int32) from by decide) (by decide) (by decide) ?_
  refine Wp.run ok_pch 3 31 #[.val (.ref b), .val (.int (Int32.ofNat i)), .val (.int c)] [(.int ((Int32.ofNat i) <<< ((1 : Int32) &&& 31)))] rfl ?_
  refine Wp.at #[.val (.ref b), .val (.int (Int32.ofNat i)), .val (.int c)] [(.int (Int32.ofNat (2 * i)))] ⟨rfl, (by rw [n_shl1 (by omega)] <;> rfl)⟩ ?_
  refine Wp.run ok_pch 5 38 #[.val (.ref b), .val (.int ((Int32.ofNat (2 * i)) + (1 : Int32))), .val (.int c)] [(.int c), (.int (Int32.ofNat (2 * i))), (.ref b)] rfl ?_
  refine Wp.getS ok_pch sH (G.1 _ (List.mem_of_getElem? (i := 95) rfl)) Via.refl rfl ?_
  refine Wp.run ok_pch 2 43 #[.val (.ref b), .val (.int ((Int32.ofNat (2 * i)) + (1 : Int32))), .val (.int c)] [(.int (lo8 (c >>> ((0 : Int32) &&& 31)))), (.int (Int32.ofNat (2 * i))), (.ref b)] rfl ?_
  refine Wp.at #[.val (.ref b), .val (.int (Int32.ofNat (2 * i + 1))), .val (.int c)] [(.int (lo8 c)), (.int (Int32.ofNat (2 * i))), (.ref b)] ⟨by simp only [n_succ], (by rw [shr0] <;> rfl)⟩ ?_
  refine Wp.aput ok_pch A (List.mem_of_getElem? (i := 0) rfl) (i := (2 * i)) rfl (by omega) rfl (fits_bt c) rfl rfl rfl ?_
  intro h1 w1 B1
  refine Wp.run ok_pch 3 47 #[.val (.ref b), .val (.int (Int32.ofNat (2 * i + 1))), .val (.int c)] [(.int c), (.int (Int32.ofNat (2 * i + 1))), (.ref b)] rfl ?_
  refine Wp.getS ok_pch sL (G.1 _ (List.mem_of_getElem? (i := 96) rfl)) Via.refl rfl ?_
  refine Wp.run ok_pch 2 52 #[.val (.ref b), .val (.int (Int32.ofNat (2 * i + 1))), .val (.int c)] [(.int (lo8 (c >>> ((8 : Int32) &&& 31)))), (.int (Int32.ofNat (2 * i + 1))), (.ref b)] rfl ?_
  refine Wp.at #[.val (.ref b), .val (.int (Int32.ofNat (2 * i + 1))), .val (.int c)] [(.int (hi8 c)), (.int (Int32.ofNat (2 * i + 1))), (.ref b)] ⟨rfl, rfl⟩ ?_
  refine Wp.aput ok_pch B1 (List.mem_of_getElem? (i := 0) rfl) (i := (2 * i + 1)) rfl (by rw [List.length_set]; exact hi) rfl (fits_bt _) rfl rfl rfl ?_
  intro h2 w2 B2
  exact Wp.ret0 ok_pch rfl rfl rfl ⟨rfl, (wr_keep w1).trans (wr_keep w2) (fun x hx => Or.inl hx), B2⟩

abbrev mt_nbl : Mth := (⟨"java/lang/StringUTF16", "newBytesLength", "(I)I"⟩, jdk_52_method_3_code, 1, some .int)
def tb_nbl : Tab := [(0, .iload_n 0, 1), (1, .ifCond .ge 11, 3), (4, .new 17, 3), (7, .dup, 1), (8, .invokespecial 19, 3), (11, .athrow, 1), (12, .iload_n 0, 1), (13, .ldc 20, 2), (15, .if_icmp .lt 40, 3), (18, .new 21, 3), (21, .dup, 1), (22, .new 23, 3), (25, .dup, 1), (26, .invokespecial 25, 3), (29, .ldc 26, 2), (31, .invokevirtual 28, 3), (34, .iload_n 0, 1), (35, .invokevirtual 32, 3), (38, .ldc 35, 2), (40, .invokevirtual 28, 3), (43, .ldc 20, 2), (45, .invokevirtual 32, 3), (48, .invokevirtual 37, 3), (51, .invokespecial 41, 3), (54, .athrow, 1), (55, .iload_n 0, 1), (56, .iconst 1, 1), (57, .ishl, 1), (58, .ireturn, 1)]
theorem ok_nbl : TabOk mt_nbl.2.1 tb_nbl := by
  intro x hx
  have q : tb_nbl.all (fun x => decide (decode jdk_52_method_3_code x.1 = .ok x.2)) = true := by decide +kernel
  exact of_decide_eq_true (List.all_eq_true.mp q x hx)
theorem pl_nbl : plainFor mt_nbl.1 = true := by first | decide +kernel | exact plainFor_of_name (by first | (simp [plainName, overriddenIn]; done) | decide +kernel)
theorem pd_nbl : parseMethodDescriptor "(I)I" = some ⟨[.int], some .int⟩ := by decide +kernel

set_option maxRecDepth 65536 in
set_option maxHeartbeats 4000000 in
theorem ct_nbl {l : Launch} {Z : State} {a0 : Array Value} (G : Gd Z a0) {m : Nat} (hm : m ≤ 16) (h : Heap)  :
    Ct l Z EL1 mt_nbl ({ frames := 0, cells := 0, slots := 0, locals := 0 } : Room) #[(.int (Int32.ofNat m))] h [] (fun v h' => v = some (.int (Int32.ofNat (2 * m))) ∧ h = h') := by
  refine Ct.of_wp pl_nbl G.2.1 (Ls := #[.val (.int (Int32.ofNat m))]) rfl ?_
  refine Wp.run ok_nbl 1 1 #[.val (.int (Int32.ofNat m))] [(.int (Int32.ofNat m))] rfl ?_
  refine Wp.ifT ok_nbl 12 rfl rfl (show ¬ (Int32.ofNat m) < (0 : Int32) from Int32.ofNat_not_neg (by omega)) (by decide) (by decide) ?_
  refine Wp.run ok_nbl 1 13 #[.val (.int (Int32.ofNat m))] [(.int (Int32.ofNat m))] rfl ?_
  refine Wp.ldcI ok_nbl (G.1 _ (List.mem_of_getElem? (i := 90) rfl)) rfl ?_
  refine Wp.icmpT ok_nbl 55 rfl rfl (show (Int32.ofNat m) < (1073741823 : Int32) from (n_lt (i := m) (j := 1073741823) (by omega) (by decide)).mpr (by omega)) (by decide) (by decide) ?_
  refine Wp.run ok_nbl 3 58 #[.val (.int (Int32.ofNat m))] [(.int ((Int32.ofNat m) <<< ((1 : Int32) &&& 31)))] rfl ?_
  refine Wp.at #[.val (.int (Int32.ofNat m))] [(.int (Int32.ofNat (2 * m)))] ⟨rfl, (by rw [n_shl1 (by omega)] <;> rfl)⟩ ?_
  exact Wp.retI ok_nbl (t := .int) rfl (by decide) rfl rfl rfl ⟨rfl, rfl⟩

abbrev mt_nbf : Mth := (⟨"java/lang/StringUTF16", "newBytesFor", "(I)[B"⟩, jdk_52_method_2_code, 1, some (.array .byte))
def tb_nbf : Tab := [(0, .iload_n 0, 1), (1, .invokestatic 11, 3), (4, .newarray .byte, 2), (6, .areturn, 1)]
theorem ok_nbf : TabOk mt_nbf.2.1 tb_nbf := by
  intro x hx
  have q : tb_nbf.all (fun x => decide (decode jdk_52_method_2_code x.1 = .ok x.2)) = true := by decide +kernel
  exact of_decide_eq_true (List.all_eq_true.mp q x hx)
theorem pl_nbf : plainFor mt_nbf.1 = true := by first | decide +kernel | exact plainFor_of_name (by first | (simp [plainName, overriddenIn]; done) | decide +kernel)
theorem pd_nbf : parseMethodDescriptor "(I)[B" = some ⟨[.int], some (.array .byte)⟩ := by decide +kernel

set_option maxRecDepth 65536 in
set_option maxHeartbeats 4000000 in
theorem ct_nbf {l : Launch} {Z : State} {a0 : Array Value} (G : Gd Z a0) {m : Nat} (hm : m ≤ 16) (h : Heap)  :
    Ct3 l Z EL1 mt_nbf ({ frames := 1, cells := 1, slots := 32, locals := 12 } : Room) #[(.int (Int32.ofNat m))] h [] (fun v h' Wo => ∃ d, v = some (.ref d) ∧ Wo = [d] ∧ Ext h h' ∧ h.size ≤ d ∧ Ar Z h' d .byte (List.replicate (2 * m) (.int 0))) := by
  refine Ct.of_wp pl_nbf G.2.1 (Ls := #[.val (.int (Int32.ofNat m))]) rfl ?_
  refine Wp.run ok_nbf 1 1 #[.val (.int (Int32.ofNat m))] [(.int (Int32.ofNat m))] rfl ?_
  refine Wp.callS ok_nbf (argsL := [(.int (Int32.ofNat m))]) (rest := []) (ct_nbl G hm h) G.2.1 (G.1 _ (List.mem_of_getElem? (i := 87) rfl)) (G.1 _ (List.mem_of_getElem? (i := 88) rfl)) (G.1 _ (List.mem_of_getElem? (i := 22) rfl)) (G.1 _ (List.mem_of_getElem? (i := 89) rfl)) rfl rfl (by decide) pd_nbl rfl rfl (Nat.le_of_ble_eq_true rfl) (Nat.le_of_ble_eq_true rfl) (Nat.le_of_ble_eq_true rfl) (Nat.le_of_ble_eq_true rfl) all0 ?_
  rintro _ _ ⟨rfl, rfl⟩ -
  refine Wp.newP ok_nbf (len := (2 * m)) (cap := 32) (G.1 _ (List.mem_of_getElem? (i := 24) rfl)) rfl rfl rfl (by omega) (Nat.le_of_ble_eq_true rfl) (Nat.le_of_ble_eq_true rfl) (Nat.le_of_ble_eq_true rfl) ?_
  intro h1 E1 B1
  exact Wp.retA ok_nbf (t := (.array .byte)) rfl rfl rfl rfl rfl ⟨_, rfl, rfl, E1, Nat.le_refl _, B1⟩

abbrev mt_tob : Mth := (⟨"java/lang/StringUTF16", "toBytes", "([CII)[B"⟩, jdk_52_method_14_code, 5, some (.array .byte))
def tb_tob : Tab := [(0, .iload_n 2, 1), (1, .invokestatic 107, 3), (4, .astore_n 3, 1), (5, .iconst 0, 1), (6, .istore 4, 2), (8, .iload 4, 2), (10, .iload_n 2, 1), (11, .if_icmp .ge 21, 3), (14, .aload_n 3, 1), (15, .iload 4, 2), (17, .aload_n 0, 1), (18, .iload_n 1, 1), (19, .caload, 1), (20, .invokestatic 111, 3), (23, .iinc 1 1, 3), (26, .iinc 4 1, 3), (29, .goto (-21), 3), (32, .aload_n 3, 1), (33, .areturn, 1)]
theorem ok_tob : TabOk mt_tob.2.1 tb_tob := by
  intro x hx
  have q : tb_tob.all (fun x => decide (decode jdk_52_method_14_code x.1 = .ok x.2)) = true := by decide +kernel
  exact of_decide_eq_true (List.all_eq_true.mp q x hx)
theorem pl_tob : plainFor mt_tob.1 = true := by first | decide +kernel | exact plainFor_of_name (by first | (simp [plainName, overriddenIn]; done) | decide +kernel)
theorem pd_tob : parseMethodDescriptor "([CII)[B" = some ⟨[(.array .char), .int, .int], some (.array .byte)⟩ := by decide +kernel

set_option maxRecDepth 65536 in
set_option maxHeartbeats 4000000 in
theorem lp_tob {l : Launch} {Z : State} {a0 : Array Value} (G : Gd Z a0) {b d : Addr} {cs : List Int32} {h h1 : Heap} (hl31 : cs.length < 2 ^ 31) (A : Ar Z h b .char (cs.map .int)) (E1 : Ext h h1) (hd : h.size ≤ d) (hbd : b ≠ d) : ∀ (r i : Nat), i + r = cs.length → ∀ h2, Keep h1 h2 [d] → Ar Z h2 d .byte (u16 (cs.take i) ++ List.replicate (2 * (cs.length - i)) (.int 0)) →
    Wp l Z EL1 mt_tob ({ frames := 2, cells := 1, slots := 32, locals := 57 } : Room) h2 [d] 1 32 8 #[.val (.ref b), .val (.int (Int32.ofNat i)), .val (.int (Int32.ofNat cs.length)), .val (.ref d), .val (.int (Int32.ofNat i))] [] (fun v h' => ∃ d, v = some (.ref d) ∧ Ext h h' ∧ Ar Z h' d .byte (u16 cs) ∧ h.size ≤ d) := by
  intro r
  induction r with
  | zero =>
    intro i hi h2 K2 B2
    obtain rfl : i = cs.length := by omega
    refine Wp.run ok_tob 2 11 #[.val (.ref b), .val (.int (Int32.ofNat cs.length)), .val (.int (Int32.ofNat cs.length)), .val (.ref d), .val (.int (Int32.ofNat cs.length))] [(.int (Int32.ofNat cs.length)), (.int (Int32.ofNat cs.length))] rfl ?_
    refine Wp.icmpT ok_tob 32 rfl rfl (show ¬ (Int32.ofNat cs.length) < (Int32.ofNat cs.length) from Int32.lt_irrefl) (by decide) (by decide) ?_
    refine Wp.run ok_tob 1 33 #[.val (.ref b), .val (.int (Int32.ofNat cs.length)), .val (.int (Int32.ofNat cs.length)), .val (.ref d), .val (.int (Int32.ofNat cs.length))] [(.ref d)] rfl ?_
    exact Wp.retA ok_tob (t := (.array .byte)) rfl rfl rfl rfl rfl ⟨d, rfl, ext_keep E1 K2 (all1 hd), by simpa using B2, hd⟩
  | succ r ih =>
    intro i hi h2 K2 B2
    obtain ⟨c, hc⟩ : ∃ c, cs[i]? = some c := ⟨_, List.getElem?_eq_getElem (by omega)⟩
    refine Wp.run ok_tob 2 11 #[.val (.ref b), .val (.int (Int32.ofNat i)), .val (.int (Int32.ofNat cs.length)), .val (.ref d), .val (.int (Int32.ofNat i))] [(.int (Int32.ofNat cs.length)), (.int (Int32.ofNat i))] rfl ?_
    refine Wp.icmpF ok_tob rfl rfl (show (Int32.ofNat i) < (Int32.ofNat cs.length) from (n_lt (by omega) (by omega)).mpr (by omega)) ?_
    refine Wp.run ok_tob 4 19 #[.val (.ref b), .val (.int (Int32.ofNat i)), .val (.int (Int32.ofNat cs.length)), .val (.ref d), .val (.int (Int32.ofNat i))] [(.int (Int32.ofNat i)), (.ref b), (.int (Int32.ofNat i)), (.ref d)] rfl ?_
    refine Wp.aget ok_tob ((A.ext E1).keep K2 (ninS hbd nin0)) (i := i) (v := (.int c)) rfl (by simp [hc]) rfl rfl rfl ?_
    refine Wp.callS ok_tob (argsL := [(.ref d), (.int (Int32.ofNat i)), (.int c)]) (rest := []) (ct_pch G (i := i) (c := c) (by rw [List.length_append, u16_len, List.length_take, List.length_replicate]; omega) h2 B2) G.2.1 (G.1 _ (List.mem_of_getElem? (i := 91) rfl)) (G.1 _ (List.mem_of_getElem? (i := 92) rfl)) (G.1 _ (List.mem_of_getElem? (i := 22) rfl)) (G.1 _ (List.mem_of_getElem? (i := 93) rfl)) rfl rfl (by decide) pd_pch rfl rfl (Nat.le_of_ble_eq_true rfl) (Nat.le_of_ble_eq_true rfl) (Nat.le_of_ble_eq_true rfl) (Nat.le_of_ble_eq_true rfl) (allS (List.mem_of_getElem? (i := 0) rfl) all0) ?_
    rintro _ h3 ⟨rfl, K3, B3⟩ -
    refine Wp.run ok_tob 3 8 #[.val (.ref b), .val (.int ((Int32.ofNat i) + (1 : Int32))), .val (.int (Int32.ofNat cs.length)), .val (.ref d), .val (.int ((Int32.ofNat i) + (1 : Int32)))] [] rfl ?_
    refine Wp.at #[.val (.ref b), .val (.int (Int32.ofNat (i + 1))), .val (.int (Int32.ofNat cs.length)), .val (.ref d), .val (.int (Int32.ofNat (i + 1)))] [] ⟨by simp only [n_succ], rfl⟩ ?_
    refine Wp.up (Nat.le_of_ble_eq_true rfl) (Nat.le_of_ble_eq_true rfl) (Nat.le_of_ble_eq_true rfl) (Nat.le_of_ble_eq_true rfl) (fun x hx => hx) (ih (i + 1) (by omega) h3 (K2.trans K3 (fun x hx => Or.inl hx)) ?_)
    rw [← u16_step hc]; exact B3

set_option maxRecDepth 65536 in
set_option maxHeartbeats 4000000 in
theorem ct_tob {l : Launch} {Z : State} {a0 : Array Value} (G : Gd Z a0) {b : Addr} {cs : List Int32} (hcap : cs.length ≤ 16) (h : Heap) (A : Ar Z h b .char (cs.map .int)) :
    Ct l Z EL1 mt_tob ({ frames := 2, cells := 1, slots := 32, locals := 57 } : Room) #[(.ref b), (.int 0), (.int (Int32.ofNat cs.length))] h [] (fun v h' => ∃ d, v = some (.ref d) ∧ Ext h h' ∧ Ar Z h' d .byte (u16 cs) ∧ h.size ≤ d) := by
  refine Ct.of_wp pl_tob G.2.1 (Ls := #[.val (.ref b), .val (.int 0), .val (.int (Int32.ofNat cs.length)), .unset, .unset]) rfl ?_
  refine Wp.run ok_tob 1 1 #[.val (.ref b), .val (.int 0), .val (.int (Int32.ofNat cs.length)), .unset, .unset] [(.int (Int32.ofNat cs.length))] rfl ?_
  refine Wp.callS3 ok_tob (argsL := [(.int (Int32.ofNat cs.length))]) (rest := []) (ct_nbf G (m := cs.length) hcap h) G.2.1 (G.1 _ (List.mem_of_getElem? (i := 84) rfl)) (G.1 _ (List.mem_of_getElem? (i := 85) rfl)) (G.1 _ (List.mem_of_getElem? (i := 22) rfl)) (G.1 _ (List.mem_of_getElem? (i := 86) rfl)) rfl rfl (by decide) pd_nbf rfl rfl (Nat.le_of_ble_eq_true rfl) (Nat.le_of_ble_eq_true rfl) (Nat.le_of_ble_eq_true rfl) (Nat.le_of_ble_eq_true rfl) all0 ?_
  rintro _ h1 _ ⟨d, rfl, rfl, E1, hd, B1⟩ -
  refine Wp.run ok_tob 3 8 #[.val (.ref b), .val (.int 0), .val (.int (Int32.ofNat cs.length)), .val (.ref d), .val (.int (0 : Int32))] [] rfl ?_
  refine Wp.at #[.val (.ref b), .val (.int 0), .val (.int (Int32.ofNat cs.length)), .val (.ref d), .val (.int (0 : Int32))] [] ⟨rfl, rfl⟩ ?_
  exact lp_tob G (by omega) A E1 hd (fun q => absurd A.lt (Nat.not_lt.mpr (q ▸ hd))) cs.length 0 (by omega) h1 (Keep.refl _ _) (by simpa [u16] using B1)

abbrev mt_gch : Mth := (⟨"java/lang/StringUTF16", "getChar", "([BI)C"⟩, jdk_52_method_5_code, 2, some .char)
def tb_gch : Tab := [(0, .getstatic 44, 3), (3, .ifCond .ne 25, 3), (6, .iload_n 1, 1), (7, .ifCond .lt 11, 3), (10, .iload_n 1, 1), (11, .aload_n 0, 1), (12, .invokestatic 48, 3), (15, .if_icmp .lt 13, 3), (18, .new 52, 3), (21, .dup, 1), (22, .ldc 54, 2), (24, .invokespecial 56, 3), (27, .athrow, 1), (28, .iload_n 1, 1), (29, .iconst 1, 1), (30, .ishl, 1), (31, .istore_n 1, 1), (32, .aload_n 0, 1), (33, .iload_n 1, 1), (34, .iinc 1 1, 3), (37, .baload, 1), (38, .sipush 255, 3), (41, .iand, 1), (42, .getstatic 59, 3), (45, .ishl, 1), (46, .aload_n 0, 1), (47, .iload_n 1, 1), (48, .baload, 1), (49, .sipush 255, 3), (52, .iand, 1), (53, .getstatic 63, 3), (56, .ishl, 1), (57, .ior, 1), (58, .i2c, 1), (59, .ireturn, 1)]
theorem ok_gch : TabOk mt_gch.2.1 tb_gch := by
  intro x hx
  have q : tb_gch.all (fun x => decide (decode jdk_52_method_5_code x.1 = .ok x.2)) = true := by decide +kernel
  exact of_decide_eq_true (List.all_eq_true.mp q x hx)
theorem pl_gch : plainFor mt_gch.1 = true := by first | decide +kernel | exact plainFor_of_name (by first | (simp [plainName, overriddenIn]; done) | decide +kernel)
theorem pd_gch : parseMethodDescriptor "([BI)C" = some ⟨[(.array .byte), .int], some .char⟩ := by decide +kernel

set_option maxRecDepth 65536 in
set_option maxHeartbeats 4000000 in
theorem ct_gch {l : Launch} {Z : State} {a0 : Array Value} (G : Gd Z a0) {b : Addr} {cs : List Int32} {i : Nat} {c : Int32} (hc : cs[i]? = some c) (hw : 0 ≤ c.toInt ∧ c.toInt ≤ 65535) (h : Heap) (A : Ar Z h b .byte (u16 cs)) :
    Ct l Z EL1 mt_gch ({ frames := 0, cells := 0, slots := 0, locals := 0 } : Room) #[(.ref b), (.int (Int32.ofNat i))] h [] (fun v h' => v = some (.int c) ∧ h = h') := by
  refine Ct.of_wp pl_gch G.2.1 (Ls := #[.val (.ref b), .val (.int (Int32.ofNat i))]) rfl ?_
  have hi := (List.getElem?_eq_some_iff.mp hc).1
  have h31 : 2 * cs.length < 2 ^ 31 := by have z := A.len; rwa [u16_len] at z
  obtain ⟨sA, sH, sL⟩ := G.2.2.2.2.1
  refine Wp.getS ok_gch sA (G.1 _ (List.mem_of_getElem? (i := 94) rfl)) Via.refl rfl ?_
  refine Wp.ifT ok_gch 28 rfl rfl (show ¬ 1 = (0 : Int32) from by decide) (by decide) (by decide) ?_
  refine Wp.run ok_gch 3 31 #[.val (.ref b), .val (.int (Int32.ofNat i))] [(.int ((Int32.ofNat i) <<< ((1 : Int32) &&& 31)))] rfl ?_
  refine Wp.at #[.val (.ref b), .val (.int (Int32.ofNat i))] [(.int (Int32.ofNat (2 * i)))] ⟨rfl, (by rw [n_shl1 (by omega)] <;> rfl)⟩ ?_
  refine Wp.run ok_gch 4 37 #[.val (.ref b), .val (.int ((Int32.ofNat (2 * i)) + (1 : Int32)))] [(.int (Int32.ofNat (2 * i))), (.ref b)] rfl ?_
  refine Wp.aget ok_gch A (i := (2 * i)) (v := (.int (lo8 c))) rfl (u16_lo cs i hc) rfl rfl rfl ?_
  refine Wp.run ok_gch 2 42 #[.val (.ref b), .val (.int ((Int32.ofNat (2 * i)) + (1 : Int32)))] [(.int ((lo8 c) &&& (255 : Int32)))] rfl ?_
  refine Wp.getS ok_gch sH (G.1 _ (List.mem_of_getElem? (i := 95) rfl)) Via.refl rfl ?_
  refine Wp.run ok_gch 3 48 #[.val (.ref b), .val (.int ((Int32.ofNat (2 * i)) + (1 : Int32)))] [(.int ((Int32.ofNat (2 * i)) + (1 : Int32))), (.ref b), (.int (((lo8 c) &&& (255 : Int32)) <<< ((0 : Int32) &&& 31)))] rfl ?_
  refine Wp.at #[.val (.ref b), .val (.int (Int32.ofNat (2 * i + 1)))] [(.int (Int32.ofNat (2 * i + 1))), (.ref b), (.int (((lo8 c) &&& (255 : Int32)) <<< ((0 : Int32) &&& 31)))] ⟨by simp only [n_succ], by simp only [n_succ]⟩ ?_
  refine Wp.aget ok_gch A (i := (2 * i + 1)) (v := (.int (hi8 c))) rfl (u16_hi cs i hc) rfl rfl rfl ?_
  refine Wp.run ok_gch 2 53 #[.val (.ref b), .val (.int (Int32.ofNat (2 * i + 1)))] [(.int ((hi8 c) &&& (255 : Int32))), (.int (((lo8 c) &&& (255 : Int32)) <<< ((0 : Int32) &&& 31)))] rfl ?_
  refine Wp.getS ok_gch sL (G.1 _ (List.mem_of_getElem? (i := 96) rfl)) Via.refl rfl ?_
  refine Wp.run ok_gch 3 59 #[.val (.ref b), .val (.int (Int32.ofNat (2 * i + 1)))] [(.int (c16 ((((lo8 c) &&& (255 : Int32)) <<< ((0 : Int32) &&& 31)) ||| (((hi8 c) &&& (255 : Int32)) <<< ((8 : Int32) &&& 31)))))] rfl ?_
  refine Wp.at #[.val (.ref b), .val (.int (Int32.ofNat (2 * i + 1)))] [(.int c)] ⟨rfl, (by rw [u_char hw] <;> rfl)⟩ ?_
  exact Wp.retI ok_gch (t := .char) rfl (by decide) rfl rfl (fitw hw) ⟨rfl, rfl⟩

set_option maxRecDepth 65536 in
set_option maxHeartbeats 4000000 in
theorem ct_cmp3u {l : Launch} {Z : State} {a0 : Array Value} (G : Gd Z a0) {b : Addr} {cs : List Int32} {p : Nat} (hp : Wide cs p) (hw : W16 cs) (hcap : cs.length ≤ 16) (h : Heap) (A : Ar Z h b .char (cs.map .int)) :
    Ct l Z EL1 mt_cmp3 ({ frames := 3, cells := 2, slots := 48, locals := 73 } : Room) #[(.ref b), (.int 0), (.int (Int32.ofNat cs.length))] h [] (fun v h' => ∃ d, v = some (.ref d) ∧ Ext h h' ∧ Ar Z h' d .byte (u16 cs) ∧ h.size ≤ d) := by
  refine Ct.of_wp pl_cmp3 G.2.1 (Ls := #[.val (.ref b), .val (.int 0), .val (.int (Int32.ofNat cs.length)), .unset, .unset, .unset]) rfl ?_
  obtain ⟨cw, q1, q2, q3⟩ := id hp
  have hpl := (List.getElem?_eq_some_iff.mp q1).1
  refine Wp.run ok_cmp3 1 1 #[.val (.ref b), .val (.int 0), .val (.int (Int32.ofNat cs.length)), .unset, .unset, .unset] [(.int (Int32.ofNat cs.length))] rfl ?_
  refine Wp.newP ok_cmp3 (len := cs.length) (cap := 16) (G.1 _ (List.mem_of_getElem? (i := 24) rfl)) rfl rfl rfl hcap (Nat.le_of_ble_eq_true rfl) (Nat.le_of_ble_eq_true rfl) (Nat.le_of_ble_eq_true rfl) ?_
  intro h1 E1 B1
  refine Wp.run ok_cmp3 6 9 #[.val (.ref b), .val (.int 0), .val (.int (Int32.ofNat cs.length)), .val (.ref h.size), .unset, .unset] [(.int (Int32.ofNat cs.length)), (.int (0 : Int32)), (.ref h.size), (.int 0), (.ref b)] rfl ?_
  refine Wp.callS ok_cmp3 (argsL := [(.ref b), (.int 0), (.ref h.size), (.int (0 : Int32)), (.int (Int32.ofNat cs.length))]) (rest := []) (ct_cmp5u G hp h1 (by omega) (A.ext E1) B1) G.2.1 (G.1 _ (List.mem_of_getElem? (i := 25) rfl)) (G.1 _ (List.mem_of_getElem? (i := 26) rfl)) (G.1 _ (List.mem_of_getElem? (i := 22) rfl)) (G.1 _ (List.mem_of_getElem? (i := 27) rfl)) rfl rfl (by decide) pd_cmp5 rfl rfl (Nat.le_of_ble_eq_true rfl) (Nat.le_of_ble_eq_true rfl) (Nat.le_of_ble_eq_true rfl) (Nat.le_of_ble_eq_true rfl) (allS (List.mem_of_getElem? (i := 0) rfl) all0) ?_
  rintro _ h2 ⟨rfl, K2⟩ -
  have E2 : Ext h h2 := ext_keep E1 K2 (all1 (Nat.le_refl _))
  refine Wp.run ok_cmp3 3 17 #[.val (.ref b), .val (.int 0), .val (.int (Int32.ofNat cs.length)), .val (.ref h.size), .val (.int (Int32.ofNat p)), .unset] [(.int (Int32.ofNat cs.length)), (.int (Int32.ofNat p))] rfl ?_
  refine Wp.icmpF ok_cmp3 rfl rfl (show ¬ (Int32.ofNat p) = (Int32.ofNat cs.length) from fun q => absurd ((n_eq (by omega) (by omega)).mp q) (by omega)) ?_
  refine Wp.run ok_cmp3 3 23 #[.val (.ref b), .val (.int 0), .val (.int (Int32.ofNat cs.length)), .val (.ref h.size), .val (.int (Int32.ofNat p)), .unset] [(.int (Int32.ofNat cs.length)), (.int 0), (.ref b)] rfl ?_
  refine Wp.callS ok_cmp3 (argsL := [(.ref b), (.int 0), (.int (Int32.ofNat cs.length))]) (rest := []) (ct_tob G hcap h2 (A.ext E2)) G.2.1 (G.1 _ (List.mem_of_getElem? (i := 81) rfl)) (G.1 _ (List.mem_of_getElem? (i := 82) rfl)) (G.1 _ (List.mem_of_getElem? (i := 22) rfl)) (G.1 _ (List.mem_of_getElem? (i := 83) rfl)) rfl rfl (by decide) pd_tob rfl rfl (Nat.le_of_ble_eq_true rfl) (Nat.le_of_ble_eq_true rfl) (Nat.le_of_ble_eq_true rfl) (Nat.le_of_ble_eq_true rfl) all0 ?_
  rintro _ h3 ⟨d, rfl, E3, A3, hd⟩ -
  refine Wp.run ok_cmp3 3 32 #[.val (.ref b), .val (.int 0), .val (.int (Int32.ofNat cs.length)), .val (.ref h.size), .val (.int (Int32.ofNat p)), .val (.ref d)] [(.int (Int32.ofNat p)), (.ref d)] rfl ?_
  refine Wp.callS ok_cmp3 (argsL := [(.ref d), (.int (Int32.ofNat p))]) (rest := []) (ct_gch G q1 (hw.at q1) h3 A3) G.2.1 (G.1 _ (List.mem_of_getElem? (i := 97) rfl)) (G.1 _ (List.mem_of_getElem? (i := 98) rfl)) (G.1 _ (List.mem_of_getElem? (i := 22) rfl)) (G.1 _ (List.mem_of_getElem? (i := 99) rfl)) rfl rfl (by decide) pd_gch rfl rfl (Nat.le_of_ble_eq_true rfl) (Nat.le_of_ble_eq_true rfl) (Nat.le_of_ble_eq_true rfl) (Nat.le_of_ble_eq_true rfl) all0 ?_
  rintro _ _ ⟨rfl, rfl⟩ -
  refine Wp.run ok_cmp3 1 38 #[.val (.ref b), .val (.int 0), .val (.int (Int32.ofNat cs.length)), .val (.ref h.size), .val (.int (Int32.ofNat p)), .val (.ref d)] [(.int (255 : Int32)), (.int cw)] rfl ?_
  refine Wp.icmpT ok_cmp3 54 rfl rfl (show (255 : Int32) < cw from Int32.lt_iff_toInt_lt.mpr (by rw [show (255 : Int32).toInt = 255 from by decide]; exact q2)) (by decide) (by decide) ?_
  refine Wp.run ok_cmp3 1 56 #[.val (.ref b), .val (.int 0), .val (.int (Int32.ofNat cs.length)), .val (.ref h.size), .val (.int (Int32.ofNat p)), .val (.ref d)] [(.ref d)] rfl ?_
  exact Wp.retA ok_cmp3 (t := (.array .byte)) rfl rfl rfl rfl rfl ⟨d, rfl, ext_trans E2 E3, A3, Nat.le_trans E2.1 hd⟩

set_option maxRecDepth 65536 in
set_option maxHeartbeats 4000000 in
theorem ct_cfalu {l : Launch} {Z : State} {a0 : Array Value} (G : Gd Z a0) {d : Addr} {cs : List Int32} (hcap : cs.length ≤ 16) (hne : 0 < cs.length) (h : Heap) (B : Ar Z h d .byte (u16 cs)) :
    Ct l Z EL1 mt_cfal ({ frames := 0, cells := 0, slots := 0, locals := 0 } : Room) #[(.ref d), (.int (Int32.ofNat cs.length))] h [] (fun v h' => v = some (.int 1) ∧ h = h') := by
  refine Ct.of_wp pl_cfal G.2.1 (Ls := #[.val (.ref d), .val (.int (Int32.ofNat cs.length))]) rfl ?_
  refine Wp.run ok_cfal 2 2 #[.val (.ref d), .val (.int (Int32.ofNat cs.length))] [(.ref d), (.int (Int32.ofNat cs.length))] rfl ?_
  refine Wp.alen ok_cfal B rfl rfl ?_
  refine Wp.run ok_cfal 4 8 #[.val (.ref d), .val (.int (Int32.ofNat cs.length))] [(.int (lo8 (ush ((Int32.ofNat cs.length) - (Int32.ofNat ((u16 cs).length))) (31 : Int32))))] rfl ?_
  have q : ∀ m : Nat, m ≤ 16 → 0 < m → lo8 (ush (Int32.ofNat m - Int32.ofNat (2 * m)) 31) = 1 := by decide +kernel
  refine Wp.at #[.val (.ref d), .val (.int (Int32.ofNat cs.length))] [(.int 1)] ⟨rfl, (by rw [u16_len, show lo8 (ush (Int32.ofNat cs.length - Int32.ofNat (2 * cs.length)) (31 : Int32)) = 1 from q _ hcap hne] <;> rfl)⟩ ?_
  exact Wp.retI ok_cfal (t := .byte) rfl (by decide) rfl rfl rfl ⟨rfl, rfl⟩

set_option maxRecDepth 65536 in
set_option maxHeartbeats 4000000 in
theorem ct_si4u {l : Launch} {Z : State} {a0 : Array Value} (G : Gd Z a0) {a b : Addr} {cs : List Int32} {p : Nat} (hp : Wide cs p) (hw : W16 cs) (hcap : cs.length ≤ 16) (h : Heap) (X0 : Exa Z h a "java/lang/String") (F1 : Fld Z h a "java/lang/String" "coder" "B" (.int 0)) {v0 : Value} (F2 : Fld Z h a "java/lang/String" "value" "[B" v0) (A : Ar Z h b .char (cs.map .int)) :
    Ct l Z EL1 mt_si4 ({ frames := 4, cells := 2, slots := 48, locals := 90 } : Room) #[(.ref a), (.ref b), (.int 0), (.int (Int32.ofNat cs.length)), .null] h [a] (fun v h' => v = none ∧ Keep h h' [a] ∧ StrU Z h' a cs) := by
  refine Ct.of_wp pl_si4 G.2.1 (Ls := #[.val (.ref a), .val (.ref b), .val (.int 0), .val (.int (Int32.ofNat cs.length)), .val .null, .unset]) rfl ?_
  obtain ⟨cw, q1, q2, q3⟩ := id hp
  have hpl := (List.getElem?_eq_some_iff.mp q1).1
  refine Wp.run ok_si4 1 1 #[.val (.ref a), .val (.ref b), .val (.int 0), .val (.int (Int32.ofNat cs.length)), .val .null, .unset] [(.ref a)] rfl ?_
  refine Wp.initO ok_si4 (G.1 _ (List.mem_of_getElem? (i := 16) rfl)) (G.1 _ (List.mem_of_getElem? (i := 17) rfl)) (G.1 _ (List.mem_of_getElem? (i := 18) rfl)) rfl rfl rfl (Nat.le_of_ble_eq_true rfl) (Nat.le_of_ble_eq_true rfl) ?_
  refine Wp.run ok_si4 1 5 #[.val (.ref a), .val (.ref b), .val (.int 0), .val (.int (Int32.ofNat cs.length)), .val .null, .unset] [(.int (Int32.ofNat cs.length))] rfl ?_
  refine Wp.ifT ok_si4 27 rfl rfl (show ¬ (Int32.ofNat cs.length) = (0 : Int32) from fun q => absurd ((n_eq (by omega) (by decide)).mp q) (show cs.length ≠ 0 by omega)) (by decide) (by decide) ?_
  obtain ⟨vC, fC, nC⟩ := G.2.2.1
  refine Wp.getS ok_si4 fC (G.1 _ (List.mem_of_getElem? (i := 19) rfl)) Via.refl rfl ?_
  refine Wp.ifF ok_si4 rfl rfl (show ¬ vC = (0 : Int32) from nC) ?_
  refine Wp.run ok_si4 3 36 #[.val (.ref a), .val (.ref b), .val (.int 0), .val (.int (Int32.ofNat cs.length)), .val .null, .unset] [(.int (Int32.ofNat cs.length)), (.int 0), (.ref b)] rfl ?_
  refine Wp.callS ok_si4 (argsL := [(.ref b), (.int 0), (.int (Int32.ofNat cs.length))]) (rest := []) (ct_cmp3u G hp hw hcap h A) G.2.1 (G.1 _ (List.mem_of_getElem? (i := 20) rfl)) (G.1 _ (List.mem_of_getElem? (i := 21) rfl)) (G.1 _ (List.mem_of_getElem? (i := 22) rfl)) (G.1 _ (List.mem_of_getElem? (i := 23) rfl)) rfl rfl (by decide) pd_cmp3 rfl rfl (Nat.le_of_ble_eq_true rfl) (Nat.le_of_ble_eq_true rfl) (Nat.le_of_ble_eq_true rfl) (Nat.le_of_ble_eq_true rfl) all0 ?_
  rintro _ h1 ⟨d, rfl, E1, B1, hd⟩ -
  refine Wp.run ok_si4 4 45 #[.val (.ref a), .val (.ref b), .val (.int 0), .val (.int (Int32.ofNat cs.length)), .val .null, .val (.ref d)] [(.int (Int32.ofNat cs.length)), (.ref d), (.ref a)] rfl ?_
  refine Wp.callS ok_si4 (argsL := [(.ref d), (.int (Int32.ofNat cs.length))]) (rest := [(.ref a)]) (ct_cfalu G hcap (by omega) h1 B1) G.2.1 (G.1 _ (List.mem_of_getElem? (i := 28) rfl)) (G.1 _ (List.mem_of_getElem? (i := 29) rfl)) (G.1 _ (List.mem_of_getElem? (i := 22) rfl)) (G.1 _ (List.mem_of_getElem? (i := 30) rfl)) rfl rfl (by decide) pd_cfal rfl rfl (Nat.le_of_ble_eq_true rfl) (Nat.le_of_ble_eq_true rfl) (Nat.le_of_ble_eq_true rfl) (Nat.le_of_ble_eq_true rfl) all0 ?_
  rintro _ _ ⟨rfl, rfl⟩ -
  refine Wp.putF ok_si4 (ty := .byte) (F1.ext E1) (X0.ext E1) (List.mem_of_getElem? (i := 0) rfl) (G.1 _ (List.mem_of_getElem? (i := 31) rfl)) Via.refl (Or.inr ⟨(G.1 _ (List.mem_of_getElem? (i := 32) rfl)), rfl, rfl⟩) (G.1 _ (List.mem_of_getElem? (i := 7) rfl)) (by decide) rfl rfl rfl ?_
  intro h2 w2
  refine Wp.run ok_si4 2 54 #[.val (.ref a), .val (.ref b), .val (.int 0), .val (.int (Int32.ofNat cs.length)), .val .null, .val (.ref d)] [(.ref d), (.ref a)] rfl ?_
  refine Wp.putF ok_si4 (ty := (.array .byte)) ((F2.ext E1).other w2 (Or.inr (slot_ne (Or.inr (G.1 _ (List.mem_of_getElem? (i := 34) rfl))) (Or.inr (G.1 _ (List.mem_of_getElem? (i := 32) rfl))) (by decide) (t := (.array .byte)) (t' := .byte) (by decide) (by decide)))) ((X0.ext E1).wr w2) (List.mem_of_getElem? (i := 0) rfl) (G.1 _ (List.mem_of_getElem? (i := 33) rfl)) Via.refl (Or.inr ⟨(G.1 _ (List.mem_of_getElem? (i := 34) rfl)), rfl, rfl⟩) (G.1 _ (List.mem_of_getElem? (i := 7) rfl)) (by decide) rfl rfl rfl ?_
  intro h3 w3
  have hda : d ≠ a := fun q => by subst q; exact absurd X0.lt (Nat.not_lt.mpr hd)
  exact Wp.ret0 ok_si4 rfl rfl rfl ⟨rfl, (((Keep.refl h [a]).ext E1).trans (wr_keep w2) (fun x hx => Or.inl hx)).trans (wr_keep w3) (fun x hx => Or.inl hx), hw, ((X0.ext E1).wr w2).wr w3, ((F1.ext E1).same w2).other w3 (Or.inr (slot_ne (Or.inr (G.1 _ (List.mem_of_getElem? (i := 32) rfl))) (Or.inr (G.1 _ (List.mem_of_getElem? (i := 34) rfl))) (by decide) (t := .byte) (t' := (.array .byte)) (by decide) (by decide))), d, ((F2.ext E1).other w2 (Or.inr (slot_ne (Or.inr (G.1 _ (List.mem_of_getElem? (i := 34) rfl))) (Or.inr (G.1 _ (List.mem_of_getElem? (i := 32) rfl))) (by decide) (t := (.array .byte)) (t' := .byte) (by decide) (by decide)))).same w3, (B1.other w2 hda).other w3 hda⟩

abbrev mt_si1 : Mth := (⟨"java/lang/String", "<init>", "([C)V"⟩, jdk_42_method_3_code, 2, none)
def tb_si1 : Tab := [(0, .aload_n 0, 1), (1, .aload_n 1, 1), (2, .iconst 0, 1), (3, .aload_n 1, 1), (4, .arraylength, 1), (5, .aconst_null, 1), (6, .invokespecial 27, 3), (9, .return_, 1)]
theorem ok_si1 : TabOk mt_si1.2.1 tb_si1 := by
  intro x hx
  have q : tb_si1.all (fun x => decide (decode jdk_42_method_3_code x.1 = .ok x.2)) = true := by decide +kernel
  exact of_decide_eq_true (List.all_eq_true.mp q x hx)
theorem pl_si1 : plainFor mt_si1.1 = true := by first | decide +kernel | exact plainFor_of_name (by first | (simp [plainName, overriddenIn]; done) | decide +kernel)
theorem pd_si1 : parseMethodDescriptor "([C)V" = some ⟨[(.array .char)], none⟩ := by decide +kernel

set_option maxRecDepth 65536 in
set_option maxHeartbeats 4000000 in
theorem ct_sig {l : Launch} {Z : State} {a0 : Array Value} (G : Gd Z a0) {a b : Addr} {cs : List Int32} (hw : W16 cs) (hcap : cs.length ≤ 16) (hne : cs ≠ []) (h : Heap) (X0 : Exa Z h a "java/lang/String") (F1 : Fld Z h a "java/lang/String" "coder" "B" (.int 0)) {v0 : Value} (F2 : Fld Z h a "java/lang/String" "value" "[B" v0) (A : Ar Z h b .char (cs.map .int)) :
    Ct l Z EL1 mt_si1 ({ frames := 5, cells := 2, slots := 48, locals := 107 } : Room) #[(.ref a), (.ref b)] h [a] (fun v h' => v = none ∧ Keep h h' [a] ∧ StrG Z h' a cs) := by
  refine Ct.of_wp pl_si1 G.2.1 (Ls := #[.val (.ref a), .val (.ref b)]) rfl ?_
  refine Wp.run ok_si1 4 4 #[.val (.ref a), .val (.ref b)] [(.ref b), (.int (0 : Int32)), (.ref b), (.ref a)] rfl ?_
  refine Wp.alen ok_si1 A rfl rfl ?_
  refine Wp.at #[.val (.ref a), .val (.ref b)] [(.int (Int32.ofNat cs.length)), (.int (0 : Int32)), (.ref b), (.ref a)] ⟨rfl, by simp only [List.length_map]⟩ ?_
  refine Wp.run ok_si1 1 6 #[.val (.ref a), .val (.ref b)] [.null, (.int (Int32.ofNat cs.length)), (.int (0 : Int32)), (.ref b), (.ref a)] rfl ?_
  rcases lat_or_wide hw with hlat | ⟨p, hp⟩
  · refine Wp.callI ok_si1 (a := a) (argsL := [(.ref b), (.int (0 : Int32)), (.int (Int32.ofNat cs.length)), .null]) (rest := []) (ct_si4 G hlat hcap hne h X0 F1 F2 A) G.2.1 (G.1 _ (List.mem_of_getElem? (i := 12) rfl)) (G.1 _ (List.mem_of_getElem? (i := 13) rfl)) (G.1 _ (List.mem_of_getElem? (i := 8) rfl)) (G.1 _ (List.mem_of_getElem? (i := 15) rfl)) rfl rfl rfl rfl (by decide) pd_si4 rfl rfl (Nat.le_of_ble_eq_true rfl) (Nat.le_of_ble_eq_true rfl) (Nat.le_of_ble_eq_true rfl) (Nat.le_of_ble_eq_true rfl) (allS (List.mem_of_getElem? (i := 0) rfl) all0) ?_
    rintro _ h1 ⟨rfl, K1, S1⟩ -
    exact Wp.ret0 ok_si1 rfl rfl rfl ⟨rfl, K1, Or.inl S1⟩
  · refine Wp.callI ok_si1 (a := a) (argsL := [(.ref b), (.int (0 : Int32)), (.int (Int32.ofNat cs.length)), .null]) (rest := []) (ct_si4u G hp hw hcap h X0 F1 F2 A) G.2.1 (G.1 _ (List.mem_of_getElem? (i := 12) rfl)) (G.1 _ (List.mem_of_getElem? (i := 13) rfl)) (G.1 _ (List.mem_of_getElem? (i := 8) rfl)) (G.1 _ (List.mem_of_getElem? (i := 15) rfl)) rfl rfl rfl rfl (by decide) pd_si4 rfl rfl (Nat.le_of_ble_eq_true rfl) (Nat.le_of_ble_eq_true rfl) (Nat.le_of_ble_eq_true rfl) (Nat.le_of_ble_eq_true rfl) (allS (List.mem_of_getElem? (i := 0) rfl) all0) ?_
    rintro _ h1 ⟨rfl, K1, S1⟩ -
    exact Wp.ret0 ok_si1 rfl rfl rfl ⟨rfl, K1, Or.inr S1⟩

abbrev mt_isl : Mth := (⟨"java/lang/String", "isLatin1", "()Z"⟩, jdk_42_method_154_code, 1, some .boolean)
def tb_isl : Tab := [(0, .getstatic 38, 3), (3, .ifCond .eq 14, 3), (6, .aload_n 0, 1), (7, .getfield 15, 3), (10, .ifCond .ne 7, 3), (13, .iconst 1, 1), (14, .goto 4, 3), (17, .iconst 0, 1), (18, .ireturn, 1)]
theorem ok_isl : TabOk mt_isl.2.1 tb_isl := by
  intro x hx
  have q : tb_isl.all (fun x => decide (decode jdk_42_method_154_code x.1 = .ok x.2)) = true := by decide +kernel
  exact of_decide_eq_true (List.all_eq_true.mp q x hx)
theorem pl_isl : plainFor mt_isl.1 = true := by first | decide +kernel | exact plainFor_of_name (by first | (simp [plainName, overriddenIn]; done) | decide +kernel)
theorem pd_isl : parseMethodDescriptor "()Z" = some ⟨[], some .boolean⟩ := by decide +kernel

set_option maxRecDepth 65536 in
set_option maxHeartbeats 4000000 in
theorem ct_isl {l : Launch} {Z : State} {a0 : Array Value} (G : Gd Z a0) {a : Addr} (h : Heap) (F : Fld Z h a "java/lang/String" "coder" "B" (.int 0)) :
    Ct l Z EL1 mt_isl ({ frames := 0, cells := 0, slots := 0, locals := 0 } : Room) #[(.ref a)] h [] (fun v h' => v = some (.int 1) ∧ h = h') := by
  refine Ct.of_wp pl_isl G.2.1 (Ls := #[.val (.ref a)]) rfl ?_
  obtain ⟨vC, fC, nC⟩ := G.2.2.1
  refine Wp.getS ok_isl fC (G.1 _ (List.mem_of_getElem? (i := 19) rfl)) Via.refl rfl ?_
  refine Wp.ifF ok_isl rfl rfl (show ¬ vC = (0 : Int32) from nC) ?_
  refine Wp.run ok_isl 1 7 #[.val (.ref a)] [(.ref a)] rfl ?_
  refine Wp.getF ok_isl F (G.1 _ (List.mem_of_getElem? (i := 31) rfl)) Via.refl rfl rfl ?_
  refine Wp.ifF ok_isl rfl rfl (show 0 = (0 : Int32) from rfl) ?_
  refine Wp.run ok_isl 2 18 #[.val (.ref a)] [(.int (1 : Int32))] rfl ?_
  exact Wp.retI ok_isl (t := .boolean) rfl (by decide) rfl rfl rfl ⟨rfl, rfl⟩

set_option maxRecDepth 65536 in
set_option maxHeartbeats 4000000 in
theorem ct_isu {l : Launch} {Z : State} {a0 : Array Value} (G : Gd Z a0) {a : Addr} (h : Heap) (F : Fld Z h a "java/lang/String" "coder" "B" (.int 1)) :
    Ct l Z EL1 mt_isl ({ frames := 0, cells := 0, slots := 0, locals := 0 } : Room) #[(.ref a)] h [] (fun v h' => v = some (.int 0) ∧ h = h') := by
  refine Ct.of_wp pl_isl G.2.1 (Ls := #[.val (.ref a)]) rfl ?_
  obtain ⟨vC, fC, nC⟩ := G.2.2.1
  refine Wp.getS ok_isl fC (G.1 _ (List.mem_of_getElem? (i := 19) rfl)) Via.refl rfl ?_
  refine Wp.ifF ok_isl rfl rfl (show ¬ vC = (0 : Int32) from nC) ?_
  refine Wp.run ok_isl 1 7 #[.val (.ref a)] [(.ref a)] rfl ?_
  refine Wp.getF ok_isl F (G.1 _ (List.mem_of_getElem? (i := 31) rfl)) Via.refl rfl rfl ?_
  refine Wp.ifT ok_isl 17 rfl rfl (show ¬ 1 = (0 : Int32) from by decide) (by decide) (by decide) ?_
  refine Wp.run ok_isl 1 18 #[.val (.ref a)] [(.int (0 : Int32))] rfl ?_
  exact Wp.retI ok_isl (t := .boolean) rfl (by decide) rfl rfl rfl ⟨rfl, rfl⟩

abbrev mt_pci : Mth := (⟨"jdk/internal/util/Preconditions", "checkIndex", "(IILjava/util/function/BiFunction;)I"⟩, jdk_41_method_11_code, 3, some .int)
def tb_pci : Tab := [(0, .iload_n 0, 1), (1, .ifCond .lt 8, 3), (4, .iload_n 0, 1), (5, .iload_n 1, 1), (6, .if_icmp .lt 10, 3), (9, .aload_n 2, 1), (10, .iload_n 0, 1), (11, .iload_n 1, 1), (12, .invokestatic 95, 3), (15, .athrow, 1), (16, .iload_n 0, 1), (17, .ireturn, 1)]
theorem ok_pci : TabOk mt_pci.2.1 tb_pci := by
  intro x hx
  have q : tb_pci.all (fun x => decide (decode jdk_41_method_11_code x.1 = .ok x.2)) = true := by decide +kernel
  exact of_decide_eq_true (List.all_eq_true.mp q x hx)
theorem pl_pci : plainFor mt_pci.1 = true := by first | decide +kernel | exact plainFor_of_name (by first | (simp [plainName, overriddenIn]; done) | decide +kernel)
theorem pd_pci : parseMethodDescriptor "(IILjava/util/function/BiFunction;)I" = some ⟨[.int, .int, (.object "java/util/function/BiFunction")], some .int⟩ := by decide +kernel

set_option maxRecDepth 65536 in
set_option maxHeartbeats 4000000 in
theorem ct_pci {l : Launch} {Z : State} {a0 : Array Value} (G : Gd Z a0) {i m : Nat} (hi : i < m) (h31 : m < 2 ^ 31) {f : Value} (hf : f.isRef = true) (h : Heap) :
    Ct l Z EL1 mt_pci ({ frames := 0, cells := 0, slots := 0, locals := 0 } : Room) #[.int (Int32.ofNat i), .int (Int32.ofNat m), f] h [] (fun v h' => v = some (.int (Int32.ofNat i)) ∧ h = h') := by
  rcases ref_cases hf with rfl | ⟨f, rfl⟩
  · refine Ct.of_wp pl_pci G.2.1 (Ls := #[.val (.int (Int32.ofNat i)), .val (.int (Int32.ofNat m)), .val .null]) rfl ?_
    refine Wp.run ok_pci 1 1 #[.val (.int (Int32.ofNat i)), .val (.int (Int32.ofNat m)), .val .null] [(.int (Int32.ofNat i))] rfl ?_
    refine Wp.ifF ok_pci rfl rfl (show ¬ (Int32.ofNat i) < (0 : Int32) from Int32.ofNat_not_neg (by omega)) ?_
    refine Wp.run ok_pci 2 6 #[.val (.int (Int32.ofNat i)), .val (.int (Int32.ofNat m)), .val .null] [(.int (Int32.ofNat m)), (.int (Int32.ofNat i))] rfl ?_
    refine Wp.icmpT ok_pci 16 rfl rfl (show (Int32.ofNat i) < (Int32.ofNat m) from (n_lt (by omega) h31).mpr hi) (by decide) (by decide) ?_
    refine Wp.run ok_pci 1 17 #[.val (.int (Int32.ofNat i)), .val (.int (Int32.ofNat m)), .val .null] [(.int (Int32.ofNat i))] rfl ?_
    exact Wp.retI ok_pci (t := .int) rfl (by decide) rfl rfl rfl ⟨rfl, rfl⟩
  · refine Ct.of_wp pl_pci G.2.1 (Ls := #[.val (.int (Int32.ofNat i)), .val (.int (Int32.ofNat m)), .val (.ref f)]) rfl ?_
    refine Wp.run ok_pci 1 1 #[.val (.int (Int32.ofNat i)), .val (.int (Int32.ofNat m)), .val (.ref f)] [(.int (Int32.ofNat i))] rfl ?_
    refine Wp.ifF ok_pci rfl rfl (show ¬ (Int32.ofNat i) < (0 : Int32) from Int32.ofNat_not_neg (by omega)) ?_
    refine Wp.run ok_pci 2 6 #[.val (.int (Int32.ofNat i)), .val (.int (Int32.ofNat m)), .val (.ref f)] [(.int (Int32.ofNat m)), (.int (Int32.ofNat i))] rfl ?_
    refine Wp.icmpT ok_pci 16 rfl rfl (show (Int32.ofNat i) < (Int32.ofNat m) from (n_lt (by omega) h31).mpr hi) (by decide) (by decide) ?_
    refine Wp.run ok_pci 1 17 #[.val (.int (Int32.ofNat i)), .val (.int (Int32.ofNat m)), .val (.ref f)] [(.int (Int32.ofNat i))] rfl ?_
    exact Wp.retI ok_pci (t := .int) rfl (by decide) rfl rfl rfl ⟨rfl, rfl⟩

abbrev mt_sci : Mth := (⟨"java/lang/String", "checkIndex", "(II)V"⟩, jdk_42_method_155_code, 2, none)
def tb_sci : Tab := [(0, .iload_n 0, 1), (1, .iload_n 1, 1), (2, .getstatic 1053, 3), (5, .invokestatic 1059, 3), (8, .pop, 1), (9, .return_, 1)]
theorem ok_sci : TabOk mt_sci.2.1 tb_sci := by
  intro x hx
  have q : tb_sci.all (fun x => decide (decode jdk_42_method_155_code x.1 = .ok x.2)) = true := by decide +kernel
  exact of_decide_eq_true (List.all_eq_true.mp q x hx)
theorem pl_sci : plainFor mt_sci.1 = true := by first | decide +kernel | exact plainFor_of_name (by first | (simp [plainName, overriddenIn]; done) | decide +kernel)
theorem pd_sci : parseMethodDescriptor "(II)V" = some ⟨[.int, .int], none⟩ := by decide +kernel

set_option maxRecDepth 65536 in
set_option maxHeartbeats 4000000 in
theorem ct_sci {l : Launch} {Z : State} {a0 : Array Value} (G : Gd Z a0) {i m : Nat} (hi : i < m) (h31 : m < 2 ^ 31) (h : Heap)  :
    Ct l Z EL1 mt_sci ({ frames := 1, cells := 0, slots := 0, locals := 14 } : Room) #[(.int (Int32.ofNat i)), (.int (Int32.ofNat m))] h [] (fun v h' => v = none ∧ h = h') := by
  refine Ct.of_wp pl_sci G.2.1 (Ls := #[.val (.int (Int32.ofNat i)), .val (.int (Int32.ofNat m))]) rfl ?_
  obtain ⟨vF, fF, rF⟩ := G.2.2.2.1
  refine Wp.run ok_sci 2 2 #[.val (.int (Int32.ofNat i)), .val (.int (Int32.ofNat m))] [(.int (Int32.ofNat m)), (.int (Int32.ofNat i))] rfl ?_
  refine Wp.getS ok_sci fF (G.1 _ (List.mem_of_getElem? (i := 70) rfl)) Via.refl rfl ?_
  refine Wp.callS ok_sci (argsL := [(.int (Int32.ofNat i)), (.int (Int32.ofNat m)), vF]) (rest := []) (ct_pci G hi h31 rF h) G.2.1 (G.1 _ (List.mem_of_getElem? (i := 72) rfl)) (G.1 _ (List.mem_of_getElem? (i := 73) rfl)) (G.1 _ (List.mem_of_getElem? (i := 71) rfl)) (G.1 _ (List.mem_of_getElem? (i := 74) rfl)) rfl rfl (by decide) pd_pci rfl rfl (Nat.le_of_ble_eq_true rfl) (Nat.le_of_ble_eq_true rfl) (Nat.le_of_ble_eq_true rfl) (Nat.le_of_ble_eq_true rfl) all0 ?_
  rintro _ _ ⟨rfl, rfl⟩ -
  refine Wp.run ok_sci 1 9 #[.val (.int (Int32.ofNat i)), .val (.int (Int32.ofNat m))] [] rfl ?_
  exact Wp.ret0 ok_sci rfl rfl rfl ⟨rfl, rfl⟩

abbrev mt_lca : Mth := (⟨"java/lang/StringLatin1", "charAt", "([BI)C"⟩, jdk_43_method_2_code, 2, some .char)
def tb_lca : Tab := [(0, .iload_n 1, 1), (1, .aload_n 0, 1), (2, .arraylength, 1), (3, .invokestatic 9, 3), (6, .aload_n 0, 1), (7, .iload_n 1, 1), (8, .baload, 1), (9, .sipush 255, 3), (12, .iand, 1), (13, .i2c, 1), (14, .ireturn, 1)]
theorem ok_lca : TabOk mt_lca.2.1 tb_lca := by
  intro x hx
  have q : tb_lca.all (fun x => decide (decode jdk_43_method_2_code x.1 = .ok x.2)) = true := by decide +kernel
  exact of_decide_eq_true (List.all_eq_true.mp q x hx)
theorem pl_lca : plainFor mt_lca.1 = true := by first | decide +kernel | exact plainFor_of_name (by first | (simp [plainName, overriddenIn]; done) | decide +kernel)
theorem pd_lca : parseMethodDescriptor "([BI)C" = some ⟨[(.array .byte), .int], some .char⟩ := by decide +kernel

set_option maxRecDepth 65536 in
set_option maxHeartbeats 4000000 in
theorem ct_lca {l : Launch} {Z : State} {a0 : Array Value} (G : Gd Z a0) {b : Addr} {cs : List Int32} {i : Nat} {c : Int32} (hl : Lat cs) (hc : cs[i]? = some c) (h : Heap) (A : Ar Z h b .byte (byt cs)) :
    Ct l Z EL1 mt_lca ({ frames := 2, cells := 0, slots := 0, locals := 27 } : Room) #[(.ref b), (.int (Int32.ofNat i))] h [] (fun v h' => v = some (.int c) ∧ h = h') := by
  refine Ct.of_wp pl_lca G.2.1 (Ls := #[.val (.ref b), .val (.int (Int32.ofNat i))]) rfl ?_
  have hi := (List.getElem?_eq_some_iff.mp hc).1
  have h31 : cs.length < 2 ^ 31 := by simpa using A.len
  refine Wp.run ok_lca 2 2 #[.val (.ref b), .val (.int (Int32.ofNat i))] [(.ref b), (.int (Int32.ofNat i))] rfl ?_
  refine Wp.alen ok_lca A rfl rfl ?_
  refine Wp.at #[.val (.ref b), .val (.int (Int32.ofNat i))] [(.int (Int32.ofNat cs.length)), (.int (Int32.ofNat i))] ⟨rfl, by simp only [List.length_map]⟩ ?_
  refine Wp.callS ok_lca (argsL := [(.int (Int32.ofNat i)), (.int (Int32.ofNat cs.length))]) (rest := []) (ct_sci G hi h31 h) G.2.1 (G.1 _ (List.mem_of_getElem? (i := 67) rfl)) (G.1 _ (List.mem_of_getElem? (i := 68) rfl)) (G.1 _ (List.mem_of_getElem? (i := 8) rfl)) (G.1 _ (List.mem_of_getElem? (i := 69) rfl)) rfl rfl (by decide) pd_sci rfl rfl (Nat.le_of_ble_eq_true rfl) (Nat.le_of_ble_eq_true rfl) (Nat.le_of_ble_eq_true rfl) (Nat.le_of_ble_eq_true rfl) all0 ?_
  rintro _ _ ⟨rfl, rfl⟩ -
  refine Wp.run ok_lca 2 8 #[.val (.ref b), .val (.int (Int32.ofNat i))] [(.int (Int32.ofNat i)), (.ref b)] rfl ?_
  refine Wp.aget ok_lca A (i := i) (v := (.int (lo8 c))) rfl (by simp [hc]) rfl rfl rfl ?_
  refine Wp.run ok_lca 3 14 #[.val (.ref b), .val (.int (Int32.ofNat i))] [(.int (c16 ((lo8 c) &&& (255 : Int32))))] rfl ?_
  refine Wp.at #[.val (.ref b), .val (.int (Int32.ofNat i))] [(.int c)] ⟨rfl, (by rw [show lo8 c &&& (255 : Int32) = c from lo8_and (hl.at hc), c16_lat (hl.at hc)] <;> rfl)⟩ ?_
  exact Wp.retI ok_lca (t := .char) rfl (by decide) rfl rfl (fitc (hl.at hc)) ⟨rfl, rfl⟩

abbrev mt_uln : Mth := (⟨"java/lang/StringUTF16", "length", "([B)I"⟩, jdk_52_method_6_code, 1, some .int)
def tb_uln : Tab := [(0, .aload_n 0, 1), (1, .arraylength, 1), (2, .iconst 1, 1), (3, .ishr, 1), (4, .ireturn, 1)]
theorem ok_uln : TabOk mt_uln.2.1 tb_uln := by
  intro x hx
  have q : tb_uln.all (fun x => decide (decode jdk_52_method_6_code x.1 = .ok x.2)) = true := by decide +kernel
  exact of_decide_eq_true (List.all_eq_true.mp q x hx)
theorem pl_uln : plainFor mt_uln.1 = true := by first | decide +kernel | exact plainFor_of_name (by first | (simp [plainName, overriddenIn]; done) | decide +kernel)
theorem pd_uln : parseMethodDescriptor "([B)I" = some ⟨[(.array .byte)], some .int⟩ := by decide +kernel

set_option maxRecDepth 65536 in
set_option maxHeartbeats 4000000 in
theorem ct_uln {l : Launch} {Z : State} {a0 : Array Value} (G : Gd Z a0) {b : Addr} {vs : List Value} (h : Heap) (A : Ar Z h b .byte vs) :
    Ct l Z EL1 mt_uln ({ frames := 0, cells := 0, slots := 0, locals := 0 } : Room) #[(.ref b)] h [] (fun v h' => v = some (.int (Int32.ofNat (vs.length / 2))) ∧ h = h') := by
  refine Ct.of_wp pl_uln G.2.1 (Ls := #[.val (.ref b)]) rfl ?_
  have h31 := A.len
  refine Wp.run ok_uln 1 1 #[.val (.ref b)] [(.ref b)] rfl ?_
  refine Wp.alen ok_uln A rfl rfl ?_
  refine Wp.run ok_uln 2 4 #[.val (.ref b)] [(.int ((Int32.ofNat vs.length) >>> ((1 : Int32) &&& 31)))] rfl ?_
  refine Wp.at #[.val (.ref b)] [(.int (Int32.ofNat (vs.length / 2)))] ⟨rfl, (by rw [n_shr1 h31] <;> rfl)⟩ ?_
  exact Wp.retI ok_uln (t := .int) rfl (by decide) rfl rfl rfl ⟨rfl, rfl⟩

abbrev mt_uci : Mth := (⟨"java/lang/StringUTF16", "checkIndex", "(I[B)V"⟩, jdk_52_method_91_code, 2, none)
def tb_uci : Tab := [(0, .iload_n 0, 1), (1, .aload_n 1, 1), (2, .invokestatic 48, 3), (5, .invokestatic 414, 3), (8, .return_, 1)]
theorem ok_uci : TabOk mt_uci.2.1 tb_uci := by
  intro x hx
  have q : tb_uci.all (fun x => decide (decode jdk_52_method_91_code x.1 = .ok x.2)) = true := by decide +kernel
  exact of_decide_eq_true (List.all_eq_true.mp q x hx)
theorem pl_uci : plainFor mt_uci.1 = true := by first | decide +kernel | exact plainFor_of_name (by first | (simp [plainName, overriddenIn]; done) | decide +kernel)
theorem pd_uci : parseMethodDescriptor "(I[B)V" = some ⟨[.int, (.array .byte)], none⟩ := by decide +kernel

set_option maxRecDepth 65536 in
set_option maxHeartbeats 4000000 in
theorem ct_uci {l : Launch} {Z : State} {a0 : Array Value} (G : Gd Z a0) {b : Addr} {vs : List Value} {i : Nat} (hi : i < vs.length / 2) (h : Heap) (A : Ar Z h b .byte vs) :
    Ct l Z EL1 mt_uci ({ frames := 2, cells := 0, slots := 0, locals := 27 } : Room) #[(.int (Int32.ofNat i)), (.ref b)] h [] (fun v h' => v = none ∧ h = h') := by
  refine Ct.of_wp pl_uci G.2.1 (Ls := #[.val (.int (Int32.ofNat i)), .val (.ref b)]) rfl ?_
  have h31 := A.len
  refine Wp.run ok_uci 2 2 #[.val (.int (Int32.ofNat i)), .val (.ref b)] [(.ref b), (.int (Int32.ofNat i))] rfl ?_
  refine Wp.callS ok_uci (argsL := [(.ref b)]) (rest := [(.int (Int32.ofNat i))]) (ct_uln G h A) G.2.1 (G.1 _ (List.mem_of_getElem? (i := 106) rfl)) (G.1 _ (List.mem_of_getElem? (i := 107) rfl)) (G.1 _ (List.mem_of_getElem? (i := 22) rfl)) (G.1 _ (List.mem_of_getElem? (i := 108) rfl)) rfl rfl (by decide) pd_uln rfl rfl (Nat.le_of_ble_eq_true rfl) (Nat.le_of_ble_eq_true rfl) (Nat.le_of_ble_eq_true rfl) (Nat.le_of_ble_eq_true rfl) all0 ?_
  rintro _ _ ⟨rfl, rfl⟩ -
  refine Wp.callS ok_uci (argsL := [(.int (Int32.ofNat i)), (.int (Int32.ofNat (vs.length / 2)))]) (rest := []) (ct_sci G hi (by omega) h) G.2.1 (G.1 _ (List.mem_of_getElem? (i := 109) rfl)) (G.1 _ (List.mem_of_getElem? (i := 68) rfl)) (G.1 _ (List.mem_of_getElem? (i := 8) rfl)) (G.1 _ (List.mem_of_getElem? (i := 69) rfl)) rfl rfl (by decide) pd_sci rfl rfl (Nat.le_of_ble_eq_true rfl) (Nat.le_of_ble_eq_true rfl) (Nat.le_of_ble_eq_true rfl) (Nat.le_of_ble_eq_true rfl) all0 ?_
  rintro _ _ ⟨rfl, rfl⟩ -
  exact Wp.ret0 ok_uci rfl rfl rfl ⟨rfl, rfl⟩

abbrev mt_uca : Mth := (⟨"java/lang/StringUTF16", "charAt", "([BI)C"⟩, jdk_52_method_83_code, 2, some .char)
def tb_uca : Tab := [(0, .iload_n 1, 1), (1, .aload_n 0, 1), (2, .invokestatic 67, 3), (5, .aload_n 0, 1), (6, .iload_n 1, 1), (7, .invokestatic 71, 3), (10, .ireturn, 1)]
theorem ok_uca : TabOk mt_uca.2.1 tb_uca := by
  intro x hx
  have q : tb_uca.all (fun x => decide (decode jdk_52_method_83_code x.1 = .ok x.2)) = true := by decide +kernel
  exact of_decide_eq_true (List.all_eq_true.mp q x hx)
theorem pl_uca : plainFor mt_uca.1 = true := by first | decide +kernel | exact plainFor_of_name (by first | (simp [plainName, overriddenIn]; done) | decide +kernel)
theorem pd_uca : parseMethodDescriptor "([BI)C" = some ⟨[(.array .byte), .int], some .char⟩ := by decide +kernel

set_option maxRecDepth 65536 in
set_option maxHeartbeats 4000000 in
theorem ct_uca {l : Launch} {Z : State} {a0 : Array Value} (G : Gd Z a0) {b : Addr} {cs : List Int32} {i : Nat} {c : Int32} (hc : cs[i]? = some c) (hw : 0 ≤ c.toInt ∧ c.toInt ≤ 65535) (h : Heap) (A : Ar Z h b .byte (u16 cs)) :
    Ct l Z EL1 mt_uca ({ frames := 3, cells := 0, slots := 0, locals := 40 } : Room) #[(.ref b), (.int (Int32.ofNat i))] h [] (fun v h' => v = some (.int c) ∧ h = h') := by
  refine Ct.of_wp pl_uca G.2.1 (Ls := #[.val (.ref b), .val (.int (Int32.ofNat i))]) rfl ?_
  have hi := (List.getElem?_eq_some_iff.mp hc).1
  refine Wp.run ok_uca 2 2 #[.val (.ref b), .val (.int (Int32.ofNat i))] [(.ref b), (.int (Int32.ofNat i))] rfl ?_
  refine Wp.callS ok_uca (argsL := [(.int (Int32.ofNat i)), (.ref b)]) (rest := []) (ct_uci G (by rw [u16_len]; omega) h A) G.2.1 (G.1 _ (List.mem_of_getElem? (i := 103) rfl)) (G.1 _ (List.mem_of_getElem? (i := 104) rfl)) (G.1 _ (List.mem_of_getElem? (i := 22) rfl)) (G.1 _ (List.mem_of_getElem? (i := 105) rfl)) rfl rfl (by decide) pd_uci rfl rfl (Nat.le_of_ble_eq_true rfl) (Nat.le_of_ble_eq_true rfl) (Nat.le_of_ble_eq_true rfl) (Nat.le_of_ble_eq_true rfl) all0 ?_
  rintro _ _ ⟨rfl, rfl⟩ -
  refine Wp.run ok_uca 2 7 #[.val (.ref b), .val (.int (Int32.ofNat i))] [(.int (Int32.ofNat i)), (.ref b)] rfl ?_
  refine Wp.callS ok_uca (argsL := [(.ref b), (.int (Int32.ofNat i))]) (rest := []) (ct_gch G hc hw h A) G.2.1 (G.1 _ (List.mem_of_getElem? (i := 97) rfl)) (G.1 _ (List.mem_of_getElem? (i := 98) rfl)) (G.1 _ (List.mem_of_getElem? (i := 22) rfl)) (G.1 _ (List.mem_of_getElem? (i := 99) rfl)) rfl rfl (by decide) pd_gch rfl rfl (Nat.le_of_ble_eq_true rfl) (Nat.le_of_ble_eq_true rfl) (Nat.le_of_ble_eq_true rfl) (Nat.le_of_ble_eq_true rfl) all0 ?_
  rintro _ _ ⟨rfl, rfl⟩ -
  exact Wp.retI ok_uca (t := .char) rfl (by decide) rfl rfl (fitw hw) ⟨rfl, rfl⟩

abbrev mt_cha : Mth := (⟨"java/lang/String", "charAt", "(I)C"⟩, jdk_42_method_56_code, 2, some .char)
def tb_cha : Tab := [(0, .aload_n 0, 1), (1, .invokevirtual 492, 3), (4, .ifCond .eq 12, 3), (7, .aload_n 0, 1), (8, .getfield 9, 3), (11, .iload_n 1, 1), (12, .invokestatic 495, 3), (15, .ireturn, 1), (16, .aload_n 0, 1), (17, .getfield 9, 3), (20, .iload_n 1, 1), (21, .invokestatic 498, 3), (24, .ireturn, 1)]
theorem ok_cha : TabOk mt_cha.2.1 tb_cha := by
  intro x hx
  have q : tb_cha.all (fun x => decide (decode jdk_42_method_56_code x.1 = .ok x.2)) = true := by decide +kernel
  exact of_decide_eq_true (List.all_eq_true.mp q x hx)
theorem pl_cha : plainFor mt_cha.1 = true := by first | decide +kernel | exact plainFor_of_name (by first | (simp [plainName, overriddenIn]; done) | decide +kernel)
theorem pd_cha : parseMethodDescriptor "(I)C" = some ⟨[.int], some .char⟩ := by decide +kernel

set_option maxRecDepth 65536 in
set_option maxHeartbeats 4000000 in
theorem ct_chg {l : Launch} {Z : State} {a0 : Array Value} (G : Gd Z a0) {a : Addr} {cs : List Int32} {i : Nat} {c : Int32} (hc : cs[i]? = some c) (h : Heap) (S1 : StrG Z h a cs) :
    Ct l Z EL1 mt_cha ({ frames := 4, cells := 0, slots := 0, locals := 53 } : Room) #[(.ref a), (.int (Int32.ofNat i))] h [] (fun v h' => v = some (.int c) ∧ h = h') := by
  refine Ct.of_wp pl_cha G.2.1 (Ls := #[.val (.ref a), .val (.int (Int32.ofNat i))]) rfl ?_
  rcases S1 with S1 | S1
  · refine Wp.run ok_cha 1 1 #[.val (.ref a), .val (.int (Int32.ofNat i))] [(.ref a)] rfl ?_
    refine Wp.callV ok_cha (a := a) (argsL := []) (rest := []) (ct_isl G h S1.cod) S1.exa G.2.1 (G.1 _ (List.mem_of_getElem? (i := 58) rfl)) (G.1 _ (List.mem_of_getElem? (i := 59) rfl)) (G.1 _ (List.mem_of_getElem? (i := 61) rfl)) (G.1 _ (List.mem_of_getElem? (i := 60) rfl)) (G.1 _ (List.mem_of_getElem? (i := 8) rfl)) (G.1 _ (List.mem_of_getElem? (i := 62) rfl)) rfl rfl (by decide) pd_isl rfl rfl (Nat.le_of_ble_eq_true rfl) (Nat.le_of_ble_eq_true rfl) (Nat.le_of_ble_eq_true rfl) (Nat.le_of_ble_eq_true rfl) all0 ?_
    rintro _ _ ⟨rfl, rfl⟩ -
    refine Wp.ifF ok_cha rfl rfl (show ¬ 1 = (0 : Int32) from by decide) ?_
    refine Wp.run ok_cha 1 8 #[.val (.ref a), .val (.int (Int32.ofNat i))] [(.ref a)] rfl ?_
    obtain ⟨b, V, A⟩ := S1.val
    refine Wp.getF ok_cha V (G.1 _ (List.mem_of_getElem? (i := 33) rfl)) Via.refl rfl rfl ?_
    refine Wp.run ok_cha 1 12 #[.val (.ref a), .val (.int (Int32.ofNat i))] [(.int (Int32.ofNat i)), (.ref b)] rfl ?_
    refine Wp.callS ok_cha (argsL := [(.ref b), (.int (Int32.ofNat i))]) (rest := []) (ct_lca G S1.lat hc h A) G.2.1 (G.1 _ (List.mem_of_getElem? (i := 63) rfl)) (G.1 _ (List.mem_of_getElem? (i := 64) rfl)) (G.1 _ (List.mem_of_getElem? (i := 65) rfl)) (G.1 _ (List.mem_of_getElem? (i := 66) rfl)) rfl rfl (by decide) pd_lca rfl rfl (Nat.le_of_ble_eq_true rfl) (Nat.le_of_ble_eq_true rfl) (Nat.le_of_ble_eq_true rfl) (Nat.le_of_ble_eq_true rfl) all0 ?_
    rintro _ _ ⟨rfl, rfl⟩ -
    exact Wp.retI ok_cha (t := .char) rfl (by decide) rfl rfl (fitc (S1.lat.at hc)) ⟨rfl, rfl⟩
  · refine Wp.run ok_cha 1 1 #[.val (.ref a), .val (.int (Int32.ofNat i))] [(.ref a)] rfl ?_
    refine Wp.callV ok_cha (a := a) (argsL := []) (rest := []) (ct_isu G h S1.cod) S1.exa G.2.1 (G.1 _ (List.mem_of_getElem? (i := 58) rfl)) (G.1 _ (List.mem_of_getElem? (i := 59) rfl)) (G.1 _ (List.mem_of_getElem? (i := 61) rfl)) (G.1 _ (List.mem_of_getElem? (i := 60) rfl)) (G.1 _ (List.mem_of_getElem? (i := 8) rfl)) (G.1 _ (List.mem_of_getElem? (i := 62) rfl)) rfl rfl (by decide) pd_isl rfl rfl (Nat.le_of_ble_eq_true rfl) (Nat.le_of_ble_eq_true rfl) (Nat.le_of_ble_eq_true rfl) (Nat.le_of_ble_eq_true rfl) all0 ?_
    rintro _ _ ⟨rfl, rfl⟩ -
    refine Wp.ifT ok_cha 16 rfl rfl (show 0 = (0 : Int32) from rfl) (by decide) (by decide) ?_
    refine Wp.run ok_cha 1 17 #[.val (.ref a), .val (.int (Int32.ofNat i))] [(.ref a)] rfl ?_
    obtain ⟨b, V, A⟩ := S1.val
    refine Wp.getF ok_cha V (G.1 _ (List.mem_of_getElem? (i := 33) rfl)) Via.refl rfl rfl ?_
    refine Wp.run ok_cha 1 21 #[.val (.ref a), .val (.int (Int32.ofNat i))] [(.int (Int32.ofNat i)), (.ref b)] rfl ?_
    refine Wp.callS ok_cha (argsL := [(.ref b), (.int (Int32.ofNat i))]) (rest := []) (ct_uca G hc (S1.w16.at hc) h A) G.2.1 (G.1 _ (List.mem_of_getElem? (i := 100) rfl)) (G.1 _ (List.mem_of_getElem? (i := 101) rfl)) (G.1 _ (List.mem_of_getElem? (i := 22) rfl)) (G.1 _ (List.mem_of_getElem? (i := 102) rfl)) rfl rfl (by decide) pd_uca rfl rfl (Nat.le_of_ble_eq_true rfl) (Nat.le_of_ble_eq_true rfl) (Nat.le_of_ble_eq_true rfl) (Nat.le_of_ble_eq_true rfl) all0 ?_
    rintro _ _ ⟨rfl, rfl⟩ -
    exact Wp.retI ok_cha (t := .char) rfl (by decide) rfl rfl (fitw (S1.w16.at hc)) ⟨rfl, rfl⟩

abbrev mt_max : Mth := (⟨"java/lang/Math", "max", "(II)I"⟩, jdk_29_method_65_code, 2, some .int)
def tb_max : Tab := [(0, .iload_n 0, 1), (1, .iload_n 1, 1), (2, .if_icmp .lt 7, 3), (5, .iload_n 0, 1), (6, .goto 4, 3), (9, .iload_n 1, 1), (10, .ireturn, 1)]
theorem ok_max : TabOk mt_max.2.1 tb_max := by
  intro x hx
  have q : tb_max.all (fun x => decide (decode jdk_29_method_65_code x.1 = .ok x.2)) = true := by decide +kernel
  exact of_decide_eq_true (List.all_eq_true.mp q x hx)
theorem pl_max : plainFor mt_max.1 = true := by first | decide +kernel | exact plainFor_of_name (by first | (simp [plainName, overriddenIn]; done) | decide +kernel)
theorem pd_max : parseMethodDescriptor "(II)I" = some ⟨[.int, .int], some .int⟩ := by decide +kernel

set_option maxRecDepth 65536 in
set_option maxHeartbeats 4000000 in
theorem ct_max {l : Launch} {Z : State} {a0 : Array Value} (G : Gd Z a0) {x y : Int32} (h : Heap)  :
    Ct l Z EL1 mt_max ({ frames := 0, cells := 0, slots := 0, locals := 0 } : Room) #[(.int x), (.int y)] h [] (fun v h' => v = some (.int (if x < y then y else x)) ∧ h = h') := by
  refine Ct.of_wp pl_max G.2.1 (Ls := #[.val (.int x), .val (.int y)]) rfl ?_
  refine Wp.run ok_max 2 2 #[.val (.int x), .val (.int y)] [(.int y), (.int x)] rfl ?_
  refine Wp.icmp ok_max 9 rfl rfl (by decide) (by decide) (fun hc => ?_) (fun hc => ?_)
  · replace hc : x < y := hc
    refine Wp.run ok_max 1 10 #[.val (.int x), .val (.int y)] [(.int y)] rfl ?_
    exact Wp.retI ok_max (t := .int) rfl (by decide) rfl rfl rfl ⟨by rw [if_pos hc], rfl⟩
  · replace hc : ¬ x < y := hc
    refine Wp.run ok_max 2 10 #[.val (.int x), .val (.int y)] [(.int x)] rfl ?_
    exact Wp.retI ok_max (t := .int) rfl (by decide) rfl rfl rfl ⟨by rw [if_neg hc], rfl⟩

abbrev mt_min : Mth := (⟨"java/lang/Math", "min", "(II)I"⟩, jdk_29_method_69_code, 2, some .int)
def tb_min : Tab := [(0, .iload_n 0, 1), (1, .iload_n 1, 1), (2, .if_icmp .gt 7, 3), (5, .iload_n 0, 1), (6, .goto 4, 3), (9, .iload_n 1, 1), (10, .ireturn, 1)]
theorem ok_min : TabOk mt_min.2.1 tb_min := by
  intro x hx
  have q : tb_min.all (fun x => decide (decode jdk_29_method_69_code x.1 = .ok x.2)) = true := by decide +kernel
  exact of_decide_eq_true (List.all_eq_true.mp q x hx)
theorem pl_min : plainFor mt_min.1 = true := by first | decide +kernel | exact plainFor_of_name (by first | (simp [plainName, overriddenIn]; done) | decide +kernel)
theorem pd_min : parseMethodDescriptor "(II)I" = some ⟨[.int, .int], some .int⟩ := by decide +kernel

set_option maxRecDepth 65536 in
set_option maxHeartbeats 4000000 in
theorem ct_min {l : Launch} {Z : State} {a0 : Array Value} (G : Gd Z a0) {x y : Int32} (h : Heap)  :
    Ct l Z EL1 mt_min ({ frames := 0, cells := 0, slots := 0, locals := 0 } : Room) #[(.int x), (.int y)] h [] (fun v h' => v = some (.int (if y < x then y else x)) ∧ h = h') := by
  refine Ct.of_wp pl_min G.2.1 (Ls := #[.val (.int x), .val (.int y)]) rfl ?_
  refine Wp.run ok_min 2 2 #[.val (.int x), .val (.int y)] [(.int y), (.int x)] rfl ?_
  refine Wp.icmp ok_min 9 rfl rfl (by decide) (by decide) (fun hc => ?_) (fun hc => ?_)
  · replace hc : y < x := hc
    refine Wp.run ok_min 1 10 #[.val (.int x), .val (.int y)] [(.int y)] rfl ?_
    exact Wp.retI ok_min (t := .int) rfl (by decide) rfl rfl rfl ⟨by rw [if_pos hc], rfl⟩
  · replace hc : ¬ y < x := hc
    refine Wp.run ok_min 2 10 #[.val (.int x), .val (.int y)] [(.int x)] rfl ?_
    exact Wp.retI ok_min (t := .int) rfl (by decide) rfl rfl rfl ⟨by rw [if_neg hc], rfl⟩
end Jvm.Pilot.@@N@@
namespace Jvm.Pilot.@@N@@
open Jvm Jvm.ClassFile Sem Op Lib Jvm.Free Jvm.Stand Jvm.LawKit Jvm.RoadKit Bundle Jvm.Pilot.@@N@@.Jvm.D Jvm.Pilot.@@N@@.Kw
abbrev mt_drw : Mth := (⟨"countersign/canonical/PercentIsUnreservedPinLaw", "draw", "(I)C"⟩, method_2_code, 1, some .char)
def tb_drw : Tab := [(0, .iload_n 0, 1), (1, .ldc 7, 2), (3, .iand, 1), (4, .ifCond .ne 9, 3), (7, .iload_n 0, 1), (8, .bipush 127, 2), (10, .iand, 1), (11, .i2c, 1), (12, .ireturn, 1), (13, .iload_n 0, 1), (14, .ldc 8, 2), (16, .iand, 1), (17, .i2c, 1), (18, .ireturn, 1)]
theorem ok_drw : TabOk mt_drw.2.1 tb_drw := by
  intro x hx
  have q : tb_drw.all (fun x => decide (decode method_2_code x.1 = .ok x.2)) = true := by decide +kernel
  exact of_decide_eq_true (List.all_eq_true.mp q x hx)
theorem pl_drw : plainFor mt_drw.1 = true := by first | decide +kernel | exact plainFor_of_name (by first | (simp [plainName, overriddenIn]; done) | decide +kernel)
theorem pd_drw : parseMethodDescriptor "(I)C" = some ⟨[.int], some .char⟩ := by decide +kernel

set_option maxRecDepth 65536 in
set_option maxHeartbeats 4000000 in
theorem ct_drw {l : Launch} {Z : State} {a0 : Array Value} (G : Gd Z a0) {x : Int32} (h : Heap)  :
    Ct l Z EL1 mt_drw ({ frames := 0, cells := 0, slots := 0, locals := 0 } : Room) #[(.int x)] h [] (fun v h' => ∃ c, v = some (.int c) ∧ h = h' ∧ 0 ≤ c.toInt ∧ c.toInt ≤ 65535) := by
  refine Ct.of_wp pl_drw G.2.1 (Ls := #[.val (.int x)]) rfl ?_
  refine Wp.run ok_drw 1 1 #[.val (.int x)] [(.int x)] rfl ?_
  refine Wp.ldcI ok_drw (G.1 _ (List.mem_of_getElem? (i := 4) rfl)) rfl ?_
  refine Wp.run ok_drw 1 4 #[.val (.int x)] [(.int (x &&& (65536 : Int32)))] rfl ?_
  refine Wp.if0 ok_drw 13 rfl rfl (by decide) (by decide) (fun hc => ?_) (fun hc => ?_)
  · replace hc : ¬ (x &&& (65536 : Int32)) = (0 : Int32) := hc
    refine Wp.run ok_drw 1 14 #[.val (.int x)] [(.int x)] rfl ?_
    refine Wp.ldcI ok_drw (G.1 _ (List.mem_of_getElem? (i := 80) rfl)) rfl ?_
    refine Wp.run ok_drw 2 18 #[.val (.int x)] [(.int (c16 (x &&& (65535 : Int32))))] rfl ?_
    exact Wp.retI ok_drw (t := .char) rfl (by decide) rfl rfl (fitw (c16_rng _)) ⟨_, rfl, rfl, c16_rng _⟩
  · replace hc : (x &&& (65536 : Int32)) = (0 : Int32) := hc
    refine Wp.run ok_drw 4 12 #[.val (.int x)] [(.int (c16 (x &&& (127 : Int32))))] rfl ?_
    exact Wp.retI ok_drw (t := .char) rfl (by decide) rfl rfl (fitw (c16_rng _)) ⟨_, rfl, rfl, c16_rng _⟩

abbrev mt_isu0 : Mth := (⟨"countersign/canonical/PercentIsUnreservedPinLaw", "isU", "(C)Z"⟩, method_3_code, 1, some .boolean)
def tb_isu0 : Tab := [(0, .iload_n 0, 1), (1, .bipush 65, 2), (3, .if_icmp .lt 11, 3), (6, .iload_n 0, 1), (7, .bipush 90, 2), (9, .if_icmp .gt 5, 3), (12, .iconst 1, 1), (13, .ireturn, 1), (14, .iload_n 0, 1), (15, .bipush 97, 2), (17, .if_icmp .lt 11, 3), (20, .iload_n 0, 1), (21, .bipush 122, 2), (23, .if_icmp .gt 5, 3), (26, .iconst 1, 1), (27, .ireturn, 1), (28, .iload_n 0, 1), (29, .bipush 48, 2), (31, .if_icmp .lt 11, 3), (34, .iload_n 0, 1), (35, .bipush 57, 2), (37, .if_icmp .gt 5, 3), (40, .iconst 1, 1), (41, .ireturn, 1), (42, .iload_n 0, 1), (43, .bipush 45, 2), (45, .if_icmp .eq 21, 3), (48, .iload_n 0, 1), (49, .bipush 95, 2), (51, .if_icmp .eq 15, 3), (54, .iload_n 0, 1), (55, .bipush 46, 2), (57, .if_icmp .eq 9, 3), (60, .iload_n 0, 1), (61, .bipush 126, 2), (63, .if_icmp .ne 7, 3), (66, .iconst 1, 1), (67, .goto 4, 3), (70, .iconst 0, 1), (71, .ireturn, 1)]
theorem ok_isu0 : TabOk mt_isu0.2.1 tb_isu0 := by
  intro x hx
  have q : tb_isu0.all (fun x => decide (decode method_3_code x.1 = .ok x.2)) = true := by decide +kernel
  exact of_decide_eq_true (List.all_eq_true.mp q x hx)
theorem pl_isu0 : plainFor mt_isu0.1 = true := by first | decide +kernel | exact plainFor_of_name (by first | (simp [plainName, overriddenIn]; done) | decide +kernel)
theorem pd_isu0 : parseMethodDescriptor "(C)Z" = some ⟨[.char], some .boolean⟩ := by decide +kernel

set_option maxRecDepth 65536 in
set_option maxHeartbeats 4000000 in
theorem ct_isu0 {l : Launch} {Z : State} {a0 : Array Value} (G : Gd Z a0) {c : Int32} (h : Heap)  :
    Ct l Z EL1 mt_isu0 ({ frames := 0, cells := 0, slots := 0, locals := 0 } : Room) #[(.int c)] h [] (fun v h' => v = some (.int (if UP c then 1 else 0)) ∧ h = h') := by
  refine Ct.of_wp pl_isu0 G.2.1 (Ls := #[.val (.int c)]) rfl ?_
  refine Wp.run ok_isu0 2 3 #[.val (.int c)] [(.int (65 : Int32)), (.int c)] rfl ?_
  refine Wp.icmp ok_isu0 14 rfl rfl (by decide) (by decide) (fun h3 => ?_) (fun h3 => ?_)
  · replace h3 : c < (65 : Int32) := h3
    have fh3 : c.toInt < 65 := by have z := Int32.lt_iff_toInt_lt.mp h3; rw [show (65 : Int32).toInt = 65 from by decide] at z; exact z
    refine Wp.run ok_isu0 2 17 #[.val (.int c)] [(.int (97 : Int32)), (.int c)] rfl ?_
    refine Wp.icmp ok_isu0 28 rfl rfl (by decide) (by decide) (fun h17 => ?_) (fun h17 => ?_)
    · replace h17 : c < (97 : Int32) := h17
      have fh17 : c.toInt < 97 := by have z := Int32.lt_iff_toInt_lt.mp h17; rw [show (97 : Int32).toInt = 97 from by decide] at z; exact z
      refine Wp.run ok_isu0 2 31 #[.val (.int c)] [(.int (48 : Int32)), (.int c)] rfl ?_
      refine Wp.icmp ok_isu0 42 rfl rfl (by decide) (by decide) (fun h31 => ?_) (fun h31 => ?_)
      · replace h31 : c < (48 : Int32) := h31
        have fh31 : c.toInt < 48 := by have z := Int32.lt_iff_toInt_lt.mp h31; rw [show (48 : Int32).toInt = 48 from by decide] at z; exact z
        refine Wp.run ok_isu0 2 45 #[.val (.int c)] [(.int (45 : Int32)), (.int c)] rfl ?_
        refine Wp.icmp ok_isu0 66 rfl rfl (by decide) (by decide) (fun h45 => ?_) (fun h45 => ?_)
        · replace h45 : c = (45 : Int32) := h45
          have fh45 : c.toInt = 45 := by rw [h45]; decide
          refine Wp.run ok_isu0 2 71 #[.val (.int c)] [(.int (1 : Int32))] rfl ?_
          exact Wp.retI ok_isu0 (t := .boolean) rfl (by decide) rfl rfl rfl ⟨by rw [if_pos (by unfold UP; omega)], rfl⟩
        · replace h45 : ¬ c = (45 : Int32) := h45
          have fh45 : c.toInt ≠ 45 := fun z => h45 (Int32.toInt_inj.mp (by rw [z]; decide))
          refine Wp.run ok_isu0 2 51 #[.val (.int c)] [(.int (95 : Int32)), (.int c)] rfl ?_
          refine Wp.icmp ok_isu0 66 rfl rfl (by decide) (by decide) (fun h51 => ?_) (fun h51 => ?_)
          · replace h51 : c = (95 : Int32) := h51
            have fh51 : c.toInt = 95 := by rw [h51]; decide
            refine Wp.run ok_isu0 2 71 #[.val (.int c)] [(.int (1 : Int32))] rfl ?_
            exact Wp.retI ok_isu0 (t := .boolean) rfl (by decide) rfl rfl rfl ⟨by rw [if_pos (by unfold UP; omega)], rfl⟩
          · replace h51 : ¬ c = (95 : Int32) := h51
            have fh51 : c.toInt ≠ 95 := fun z => h51 (Int32.toInt_inj.mp (by rw [z]; decide))
            refine Wp.run ok_isu0 2 57 #[.val (.int c)] [(.int (46 : Int32)), (.int c)] rfl ?_
            refine Wp.icmp ok_isu0 66 rfl rfl (by decide) (by decide) (fun h57 => ?_) (fun h57 => ?_)
            · replace h57 : c = (46 : Int32) := h57
              have fh57 : c.toInt = 46 := by rw [h57]; decide
              refine Wp.run ok_isu0 2 71 #[.val (.int c)] [(.int (1 : Int32))] rfl ?_
              exact Wp.retI ok_isu0 (t := .boolean) rfl (by decide) rfl rfl rfl ⟨by rw [if_pos (by unfold UP; omega)], rfl⟩
            · replace h57 : ¬ c = (46 : Int32) := h57
              have fh57 : c.toInt ≠ 46 := fun z => h57 (Int32.toInt_inj.mp (by rw [z]; decide))
              refine Wp.run ok_isu0 2 63 #[.val (.int c)] [(.int (126 : Int32)), (.int c)] rfl ?_
              refine Wp.icmp ok_isu0 70 rfl rfl (by decide) (by decide) (fun h63 => ?_) (fun h63 => ?_)
              · replace h63 : ¬ c = (126 : Int32) := h63
                have fh63 : c.toInt ≠ 126 := fun z => h63 (Int32.toInt_inj.mp (by rw [z]; decide))
                refine Wp.run ok_isu0 1 71 #[.val (.int c)] [(.int (0 : Int32))] rfl ?_
                exact Wp.retI ok_isu0 (t := .boolean) rfl (by decide) rfl rfl rfl ⟨by rw [if_neg (by unfold UP; omega)], rfl⟩
              · replace h63 : c = (126 : Int32) := h63
                have fh63 : c.toInt = 126 := by rw [h63]; decide
                refine Wp.run ok_isu0 2 71 #[.val (.int c)] [(.int (1 : Int32))] rfl ?_
                exact Wp.retI ok_isu0 (t := .boolean) rfl (by decide) rfl rfl rfl ⟨by rw [if_pos (by unfold UP; omega)], rfl⟩
      · replace h31 : ¬ c < (48 : Int32) := h31
        have fh31 : 48 ≤ c.toInt := by have z := Int32.not_lt.mp h31; rw [Int32.le_iff_toInt_le, show (48 : Int32).toInt = 48 from by decide] at z; exact z
        refine Wp.run ok_isu0 2 37 #[.val (.int c)] [(.int (57 : Int32)), (.int c)] rfl ?_
        refine Wp.icmp ok_isu0 42 rfl rfl (by decide) (by decide) (fun h37 => ?_) (fun h37 => ?_)
        · replace h37 : (57 : Int32) < c := h37
          have fh37 : 57 < c.toInt := by have z := Int32.lt_iff_toInt_lt.mp h37; rw [show (57 : Int32).toInt = 57 from by decide] at z; exact z
          refine Wp.run ok_isu0 2 45 #[.val (.int c)] [(.int (45 : Int32)), (.int c)] rfl ?_
          refine Wp.icmp ok_isu0 66 rfl rfl (by decide) (by decide) (fun h45 => ?_) (fun h45 => ?_)
          · replace h45 : c = (45 : Int32) := h45
            have fh45 : c.toInt = 45 := by rw [h45]; decide
            refine Wp.run ok_isu0 2 71 #[.val (.int c)] [(.int (1 : Int32))] rfl ?_
            exact Wp.retI ok_isu0 (t := .boolean) rfl (by decide) rfl rfl rfl ⟨by rw [if_pos (by unfold UP; omega)], rfl⟩
          · replace h45 : ¬ c = (45 : Int32) := h45
            have fh45 : c.toInt ≠ 45 := fun z => h45 (Int32.toInt_inj.mp (by rw [z]; decide))
            refine Wp.run ok_isu0 2 51 #[.val (.int c)] [(.int (95 : Int32)), (.int c)] rfl ?_
            refine Wp.icmp ok_isu0 66 rfl rfl (by decide) (by decide) (fun h51 => ?_) (fun h51 => ?_)
            · replace h51 : c = (95 : Int32) := h51
              have fh51 : c.toInt = 95 := by rw [h51]; decide
              refine Wp.run ok_isu0 2 71 #[.val (.int c)] [(.int (1 : Int32))] rfl ?_
              exact Wp.retI ok_isu0 (t := .boolean) rfl (by decide) rfl rfl rfl ⟨by rw [if_pos (by unfold UP; omega)], rfl⟩
            · replace h51 : ¬ c = (95 : Int32) := h51
              have fh51 : c.toInt ≠ 95 := fun z => h51 (Int32.toInt_inj.mp (by rw [z]; decide))
              refine Wp.run ok_isu0 2 57 #[.val (.int c)] [(.int (46 : Int32)), (.int c)] rfl ?_
              refine Wp.icmp ok_isu0 66 rfl rfl (by decide) (by decide) (fun h57 => ?_) (fun h57 => ?_)
              · replace h57 : c = (46 : Int32) := h57
                have fh57 : c.toInt = 46 := by rw [h57]; decide
                refine Wp.run ok_isu0 2 71 #[.val (.int c)] [(.int (1 : Int32))] rfl ?_
                exact Wp.retI ok_isu0 (t := .boolean) rfl (by decide) rfl rfl rfl ⟨by rw [if_pos (by unfold UP; omega)], rfl⟩
              · replace h57 : ¬ c = (46 : Int32) := h57
                have fh57 : c.toInt ≠ 46 := fun z => h57 (Int32.toInt_inj.mp (by rw [z]; decide))
                refine Wp.run ok_isu0 2 63 #[.val (.int c)] [(.int (126 : Int32)), (.int c)] rfl ?_
                refine Wp.icmp ok_isu0 70 rfl rfl (by decide) (by decide) (fun h63 => ?_) (fun h63 => ?_)
                · replace h63 : ¬ c = (126 : Int32) := h63
                  have fh63 : c.toInt ≠ 126 := fun z => h63 (Int32.toInt_inj.mp (by rw [z]; decide))
                  refine Wp.run ok_isu0 1 71 #[.val (.int c)] [(.int (0 : Int32))] rfl ?_
                  exact Wp.retI ok_isu0 (t := .boolean) rfl (by decide) rfl rfl rfl ⟨by rw [if_neg (by unfold UP; omega)], rfl⟩
                · replace h63 : c = (126 : Int32) := h63
                  have fh63 : c.toInt = 126 := by rw [h63]; decide
                  refine Wp.run ok_isu0 2 71 #[.val (.int c)] [(.int (1 : Int32))] rfl ?_
                  exact Wp.retI ok_isu0 (t := .boolean) rfl (by decide) rfl rfl rfl ⟨by rw [if_pos (by unfold UP; omega)], rfl⟩
        · replace h37 : ¬ (57 : Int32) < c := h37
          have fh37 : c.toInt ≤ 57 := by have z := Int32.not_lt.mp h37; rw [Int32.le_iff_toInt_le, show (57 : Int32).toInt = 57 from by decide] at z; exact z
          refine Wp.run ok_isu0 1 41 #[.val (.int c)] [(.int (1 : Int32))] rfl ?_
          exact Wp.retI ok_isu0 (t := .boolean) rfl (by decide) rfl rfl rfl ⟨by rw [if_pos (by unfold UP; omega)], rfl⟩
    · replace h17 : ¬ c < (97 : Int32) := h17
      have fh17 : 97 ≤ c.toInt := by have z := Int32.not_lt.mp h17; rw [Int32.le_iff_toInt_le, show (97 : Int32).toInt = 97 from by decide] at z; exact z
      refine Wp.run ok_isu0 2 23 #[.val (.int c)] [(.int (122 : Int32)), (.int c)] rfl ?_
      refine Wp.icmp ok_isu0 28 rfl rfl (by decide) (by decide) (fun h23 => ?_) (fun h23 => ?_)
      · replace h23 : (122 : Int32) < c := h23
        have fh23 : 122 < c.toInt := by have z := Int32.lt_iff_toInt_lt.mp h23; rw [show (122 : Int32).toInt = 122 from by decide] at z; exact z
        refine Wp.run ok_isu0 2 31 #[.val (.int c)] [(.int (48 : Int32)), (.int c)] rfl ?_
        refine Wp.icmp ok_isu0 42 rfl rfl (by decide) (by decide) (fun h31 => ?_) (fun h31 => ?_)
        · replace h31 : c < (48 : Int32) := h31
          have fh31 : c.toInt < 48 := by have z := Int32.lt_iff_toInt_lt.mp h31; rw [show (48 : Int32).toInt = 48 from by decide] at z; exact z
          refine Wp.run ok_isu0 2 45 #[.val (.int c)] [(.int (45 : Int32)), (.int c)] rfl ?_
          refine Wp.icmp ok_isu0 66 rfl rfl (by decide) (by decide) (fun h45 => ?_) (fun h45 => ?_)
          · replace h45 : c = (45 : Int32) := h45
            have fh45 : c.toInt = 45 := by rw [h45]; decide
            refine Wp.run ok_isu0 2 71 #[.val (.int c)] [(.int (1 : Int32))] rfl ?_
            exact Wp.retI ok_isu0 (t := .boolean) rfl (by decide) rfl rfl rfl ⟨by rw [if_pos (by unfold UP; omega)], rfl⟩
          · replace h45 : ¬ c = (45 : Int32) := h45
            have fh45 : c.toInt ≠ 45 := fun z => h45 (Int32.toInt_inj.mp (by rw [z]; decide))
            refine Wp.run ok_isu0 2 51 #[.val (.int c)] [(.int (95 : Int32)), (.int c)] rfl ?_
            refine Wp.icmp ok_isu0 66 rfl rfl (by decide) (by decide) (fun h51 => ?_) (fun h51 => ?_)
            · replace h51 : c = (95 : Int32) := h51
              have fh51 : c.toInt = 95 := by rw [h51]; decide
              refine Wp.run ok_isu0 2 71 #[.val (.int c)] [(.int (1 : Int32))] rfl ?_
              exact Wp.retI ok_isu0 (t := .boolean) rfl (by decide) rfl rfl rfl ⟨by rw [if_pos (by unfold UP; omega)], rfl⟩
            · replace h51 : ¬ c = (95 : Int32) := h51
              have fh51 : c.toInt ≠ 95 := fun z => h51 (Int32.toInt_inj.mp (by rw [z]; decide))
              refine Wp.run ok_isu0 2 57 #[.val (.int c)] [(.int (46 : Int32)), (.int c)] rfl ?_
              refine Wp.icmp ok_isu0 66 rfl rfl (by decide) (by decide) (fun h57 => ?_) (fun h57 => ?_)
              · replace h57 : c = (46 : Int32) := h57
                have fh57 : c.toInt = 46 := by rw [h57]; decide
                refine Wp.run ok_isu0 2 71 #[.val (.int c)] [(.int (1 : Int32))] rfl ?_
                exact Wp.retI ok_isu0 (t := .boolean) rfl (by decide) rfl rfl rfl ⟨by rw [if_pos (by unfold UP; omega)], rfl⟩
              · replace h57 : ¬ c = (46 : Int32) := h57
                have fh57 : c.toInt ≠ 46 := fun z => h57 (Int32.toInt_inj.mp (by rw [z]; decide))
                refine Wp.run ok_isu0 2 63 #[.val (.int c)] [(.int (126 : Int32)), (.int c)] rfl ?_
                refine Wp.icmp ok_isu0 70 rfl rfl (by decide) (by decide) (fun h63 => ?_) (fun h63 => ?_)
                · replace h63 : ¬ c = (126 : Int32) := h63
                  have fh63 : c.toInt ≠ 126 := fun z => h63 (Int32.toInt_inj.mp (by rw [z]; decide))
                  refine Wp.run ok_isu0 1 71 #[.val (.int c)] [(.int (0 : Int32))] rfl ?_
                  exact Wp.retI ok_isu0 (t := .boolean) rfl (by decide) rfl rfl rfl ⟨by rw [if_neg (by unfold UP; omega)], rfl⟩
                · replace h63 : c = (126 : Int32) := h63
                  have fh63 : c.toInt = 126 := by rw [h63]; decide
                  refine Wp.run ok_isu0 2 71 #[.val (.int c)] [(.int (1 : Int32))] rfl ?_
                  exact Wp.retI ok_isu0 (t := .boolean) rfl (by decide) rfl rfl rfl ⟨by rw [if_pos (by unfold UP; omega)], rfl⟩
        · replace h31 : ¬ c < (48 : Int32) := h31
          have fh31 : 48 ≤ c.toInt := by have z := Int32.not_lt.mp h31; rw [Int32.le_iff_toInt_le, show (48 : Int32).toInt = 48 from by decide] at z; exact z
          refine Wp.run ok_isu0 2 37 #[.val (.int c)] [(.int (57 : Int32)), (.int c)] rfl ?_
          refine Wp.icmp ok_isu0 42 rfl rfl (by decide) (by decide) (fun h37 => ?_) (fun h37 => ?_)
          · replace h37 : (57 : Int32) < c := h37
            have fh37 : 57 < c.toInt := by have z := Int32.lt_iff_toInt_lt.mp h37; rw [show (57 : Int32).toInt = 57 from by decide] at z; exact z
            refine Wp.run ok_isu0 2 45 #[.val (.int c)] [(.int (45 : Int32)), (.int c)] rfl ?_
            refine Wp.icmp ok_isu0 66 rfl rfl (by decide) (by decide) (fun h45 => ?_) (fun h45 => ?_)
            · replace h45 : c = (45 : Int32) := h45
              have fh45 : c.toInt = 45 := by rw [h45]; decide
              refine Wp.run ok_isu0 2 71 #[.val (.int c)] [(.int (1 : Int32))] rfl ?_
              exact Wp.retI ok_isu0 (t := .boolean) rfl (by decide) rfl rfl rfl ⟨by rw [if_pos (by unfold UP; omega)], rfl⟩
            · replace h45 : ¬ c = (45 : Int32) := h45
              have fh45 : c.toInt ≠ 45 := fun z => h45 (Int32.toInt_inj.mp (by rw [z]; decide))
              refine Wp.run ok_isu0 2 51 #[.val (.int c)] [(.int (95 : Int32)), (.int c)] rfl ?_
              refine Wp.icmp ok_isu0 66 rfl rfl (by decide) (by decide) (fun h51 => ?_) (fun h51 => ?_)
              · replace h51 : c = (95 : Int32) := h51
                have fh51 : c.toInt = 95 := by rw [h51]; decide
                refine Wp.run ok_isu0 2 71 #[.val (.int c)] [(.int (1 : Int32))] rfl ?_
                exact Wp.retI ok_isu0 (t := .boolean) rfl (by decide) rfl rfl rfl ⟨by rw [if_pos (by unfold UP; omega)], rfl⟩
              · replace h51 : ¬ c = (95 : Int32) := h51
                have fh51 : c.toInt ≠ 95 := fun z => h51 (Int32.toInt_inj.mp (by rw [z]; decide))
                refine Wp.run ok_isu0 2 57 #[.val (.int c)] [(.int (46 : Int32)), (.int c)] rfl ?_
                refine Wp.icmp ok_isu0 66 rfl rfl (by decide) (by decide) (fun h57 => ?_) (fun h57 => ?_)
                · replace h57 : c = (46 : Int32) := h57
                  have fh57 : c.toInt = 46 := by rw [h57]; decide
                  refine Wp.run ok_isu0 2 71 #[.val (.int c)] [(.int (1 : Int32))] rfl ?_
                  exact Wp.retI ok_isu0 (t := .boolean) rfl (by decide) rfl rfl rfl ⟨by rw [if_pos (by unfold UP; omega)], rfl⟩
                · replace h57 : ¬ c = (46 : Int32) := h57
                  have fh57 : c.toInt ≠ 46 := fun z => h57 (Int32.toInt_inj.mp (by rw [z]; decide))
                  refine Wp.run ok_isu0 2 63 #[.val (.int c)] [(.int (126 : Int32)), (.int c)] rfl ?_
                  refine Wp.icmp ok_isu0 70 rfl rfl (by decide) (by decide) (fun h63 => ?_) (fun h63 => ?_)
                  · replace h63 : ¬ c = (126 : Int32) := h63
                    have fh63 : c.toInt ≠ 126 := fun z => h63 (Int32.toInt_inj.mp (by rw [z]; decide))
                    refine Wp.run ok_isu0 1 71 #[.val (.int c)] [(.int (0 : Int32))] rfl ?_
                    exact Wp.retI ok_isu0 (t := .boolean) rfl (by decide) rfl rfl rfl ⟨by rw [if_neg (by unfold UP; omega)], rfl⟩
                  · replace h63 : c = (126 : Int32) := h63
                    have fh63 : c.toInt = 126 := by rw [h63]; decide
                    refine Wp.run ok_isu0 2 71 #[.val (.int c)] [(.int (1 : Int32))] rfl ?_
                    exact Wp.retI ok_isu0 (t := .boolean) rfl (by decide) rfl rfl rfl ⟨by rw [if_pos (by unfold UP; omega)], rfl⟩
          · replace h37 : ¬ (57 : Int32) < c := h37
            have fh37 : c.toInt ≤ 57 := by have z := Int32.not_lt.mp h37; rw [Int32.le_iff_toInt_le, show (57 : Int32).toInt = 57 from by decide] at z; exact z
            refine Wp.run ok_isu0 1 41 #[.val (.int c)] [(.int (1 : Int32))] rfl ?_
            exact Wp.retI ok_isu0 (t := .boolean) rfl (by decide) rfl rfl rfl ⟨by rw [if_pos (by unfold UP; omega)], rfl⟩
      · replace h23 : ¬ (122 : Int32) < c := h23
        have fh23 : c.toInt ≤ 122 := by have z := Int32.not_lt.mp h23; rw [Int32.le_iff_toInt_le, show (122 : Int32).toInt = 122 from by decide] at z; exact z
        refine Wp.run ok_isu0 1 27 #[.val (.int c)] [(.int (1 : Int32))] rfl ?_
        exact Wp.retI ok_isu0 (t := .boolean) rfl (by decide) rfl rfl rfl ⟨by rw [if_pos (by unfold UP; omega)], rfl⟩
  · replace h3 : ¬ c < (65 : Int32) := h3
    have fh3 : 65 ≤ c.toInt := by have z := Int32.not_lt.mp h3; rw [Int32.le_iff_toInt_le, show (65 : Int32).toInt = 65 from by decide] at z; exact z
    refine Wp.run ok_isu0 2 9 #[.val (.int c)] [(.int (90 : Int32)), (.int c)] rfl ?_
    refine Wp.icmp ok_isu0 14 rfl rfl (by decide) (by decide) (fun h9 => ?_) (fun h9 => ?_)
    · replace h9 : (90 : Int32) < c := h9
      have fh9 : 90 < c.toInt := by have z := Int32.lt_iff_toInt_lt.mp h9; rw [show (90 : Int32).toInt = 90 from by decide] at z; exact z
      refine Wp.run ok_isu0 2 17 #[.val (.int c)] [(.int (97 : Int32)), (.int c)] rfl ?_
      refine Wp.icmp ok_isu0 28 rfl rfl (by decide) (by decide) (fun h17 => ?_) (fun h17 => ?_)
      · replace h17 : c < (97 : Int32) := h17
        have fh17 : c.toInt < 97 := by have z := Int32.lt_iff_toInt_lt.mp h17; rw [show (97 : Int32).toInt = 97 from by decide] at z; exact z
        refine Wp.run ok_isu0 2 31 #[.val (.int c)] [(.int (48 : Int32)), (.int c)] rfl ?_
        refine Wp.icmp ok_isu0 42 rfl rfl (by decide) (by decide) (fun h31 => ?_) (fun h31 => ?_)
        · replace h31 : c < (48 : Int32) := h31
          have fh31 : c.toInt < 48 := by have z := Int32.lt_iff_toInt_lt.mp h31; rw [show (48 : Int32).toInt = 48 from by decide] at z; exact z
          refine Wp.run ok_isu0 2 45 #[.val (.int c)] [(.int (45 : Int32)), (.int c)] rfl ?_
          refine Wp.icmp ok_isu0 66 rfl rfl (by decide) (by decide) (fun h45 => ?_) (fun h45 => ?_)
          · replace h45 : c = (45 : Int32) := h45
            have fh45 : c.toInt = 45 := by rw [h45]; decide
            refine Wp.run ok_isu0 2 71 #[.val (.int c)] [(.int (1 : Int32))] rfl ?_
            exact Wp.retI ok_isu0 (t := .boolean) rfl (by decide) rfl rfl rfl ⟨by rw [if_pos (by unfold UP; omega)], rfl⟩
          · replace h45 : ¬ c = (45 : Int32) := h45
            have fh45 : c.toInt ≠ 45 := fun z => h45 (Int32.toInt_inj.mp (by rw [z]; decide))
            refine Wp.run ok_isu0 2 51 #[.val (.int c)] [(.int (95 : Int32)), (.int c)] rfl ?_
            refine Wp.icmp ok_isu0 66 rfl rfl (by decide) (by decide) (fun h51 => ?_) (fun h51 => ?_)
            · replace h51 : c = (95 : Int32) := h51
              have fh51 : c.toInt = 95 := by rw [h51]; decide
              refine Wp.run ok_isu0 2 71 #[.val (.int c)] [(.int (1 : Int32))] rfl ?_
              exact Wp.retI ok_isu0 (t := .boolean) rfl (by decide) rfl rfl rfl ⟨by rw [if_pos (by unfold UP; omega)], rfl⟩
            · replace h51 : ¬ c = (95 : Int32) := h51
              have fh51 : c.toInt ≠ 95 := fun z => h51 (Int32.toInt_inj.mp (by rw [z]; decide))
              refine Wp.run ok_isu0 2 57 #[.val (.int c)] [(.int (46 : Int32)), (.int c)] rfl ?_
              refine Wp.icmp ok_isu0 66 rfl rfl (by decide) (by decide) (fun h57 => ?_) (fun h57 => ?_)
              · replace h57 : c = (46 : Int32) := h57
                have fh57 : c.toInt = 46 := by rw [h57]; decide
                refine Wp.run ok_isu0 2 71 #[.val (.int c)] [(.int (1 : Int32))] rfl ?_
                exact Wp.retI ok_isu0 (t := .boolean) rfl (by decide) rfl rfl rfl ⟨by rw [if_pos (by unfold UP; omega)], rfl⟩
              · replace h57 : ¬ c = (46 : Int32) := h57
                have fh57 : c.toInt ≠ 46 := fun z => h57 (Int32.toInt_inj.mp (by rw [z]; decide))
                refine Wp.run ok_isu0 2 63 #[.val (.int c)] [(.int (126 : Int32)), (.int c)] rfl ?_
                refine Wp.icmp ok_isu0 70 rfl rfl (by decide) (by decide) (fun h63 => ?_) (fun h63 => ?_)
                · replace h63 : ¬ c = (126 : Int32) := h63
                  have fh63 : c.toInt ≠ 126 := fun z => h63 (Int32.toInt_inj.mp (by rw [z]; decide))
                  refine Wp.run ok_isu0 1 71 #[.val (.int c)] [(.int (0 : Int32))] rfl ?_
                  exact Wp.retI ok_isu0 (t := .boolean) rfl (by decide) rfl rfl rfl ⟨by rw [if_neg (by unfold UP; omega)], rfl⟩
                · replace h63 : c = (126 : Int32) := h63
                  have fh63 : c.toInt = 126 := by rw [h63]; decide
                  refine Wp.run ok_isu0 2 71 #[.val (.int c)] [(.int (1 : Int32))] rfl ?_
                  exact Wp.retI ok_isu0 (t := .boolean) rfl (by decide) rfl rfl rfl ⟨by rw [if_pos (by unfold UP; omega)], rfl⟩
        · replace h31 : ¬ c < (48 : Int32) := h31
          have fh31 : 48 ≤ c.toInt := by have z := Int32.not_lt.mp h31; rw [Int32.le_iff_toInt_le, show (48 : Int32).toInt = 48 from by decide] at z; exact z
          refine Wp.run ok_isu0 2 37 #[.val (.int c)] [(.int (57 : Int32)), (.int c)] rfl ?_
          refine Wp.icmp ok_isu0 42 rfl rfl (by decide) (by decide) (fun h37 => ?_) (fun h37 => ?_)
          · replace h37 : (57 : Int32) < c := h37
            have fh37 : 57 < c.toInt := by have z := Int32.lt_iff_toInt_lt.mp h37; rw [show (57 : Int32).toInt = 57 from by decide] at z; exact z
            refine Wp.run ok_isu0 2 45 #[.val (.int c)] [(.int (45 : Int32)), (.int c)] rfl ?_
            refine Wp.icmp ok_isu0 66 rfl rfl (by decide) (by decide) (fun h45 => ?_) (fun h45 => ?_)
            · replace h45 : c = (45 : Int32) := h45
              have fh45 : c.toInt = 45 := by rw [h45]; decide
              refine Wp.run ok_isu0 2 71 #[.val (.int c)] [(.int (1 : Int32))] rfl ?_
              exact Wp.retI ok_isu0 (t := .boolean) rfl (by decide) rfl rfl rfl ⟨by rw [if_pos (by unfold UP; omega)], rfl⟩
            · replace h45 : ¬ c = (45 : Int32) := h45
              have fh45 : c.toInt ≠ 45 := fun z => h45 (Int32.toInt_inj.mp (by rw [z]; decide))
              refine Wp.run ok_isu0 2 51 #[.val (.int c)] [(.int (95 : Int32)), (.int c)] rfl ?_
              refine Wp.icmp ok_isu0 66 rfl rfl (by decide) (by decide) (fun h51 => ?_) (fun h51 => ?_)
              · replace h51 : c = (95 : Int32) := h51
                have fh51 : c.toInt = 95 := by rw [h51]; decide
                refine Wp.run ok_isu0 2 71 #[.val (.int c)] [(.int (1 : Int32))] rfl ?_
                exact Wp.retI ok_isu0 (t := .boolean) rfl (by decide) rfl rfl rfl ⟨by rw [if_pos (by unfold UP; omega)], rfl⟩
              · replace h51 : ¬ c = (95 : Int32) := h51
                have fh51 : c.toInt ≠ 95 := fun z => h51 (Int32.toInt_inj.mp (by rw [z]; decide))
                refine Wp.run ok_isu0 2 57 #[.val (.int c)] [(.int (46 : Int32)), (.int c)] rfl ?_
                refine Wp.icmp ok_isu0 66 rfl rfl (by decide) (by decide) (fun h57 => ?_) (fun h57 => ?_)
                · replace h57 : c = (46 : Int32) := h57
                  have fh57 : c.toInt = 46 := by rw [h57]; decide
                  refine Wp.run ok_isu0 2 71 #[.val (.int c)] [(.int (1 : Int32))] rfl ?_
                  exact Wp.retI ok_isu0 (t := .boolean) rfl (by decide) rfl rfl rfl ⟨by rw [if_pos (by unfold UP; omega)], rfl⟩
                · replace h57 : ¬ c = (46 : Int32) := h57
                  have fh57 : c.toInt ≠ 46 := fun z => h57 (Int32.toInt_inj.mp (by rw [z]; decide))
                  refine Wp.run ok_isu0 2 63 #[.val (.int c)] [(.int (126 : Int32)), (.int c)] rfl ?_
                  refine Wp.icmp ok_isu0 70 rfl rfl (by decide) (by decide) (fun h63 => ?_) (fun h63 => ?_)
                  · replace h63 : ¬ c = (126 : Int32) := h63
                    have fh63 : c.toInt ≠ 126 := fun z => h63 (Int32.toInt_inj.mp (by rw [z]; decide))
                    refine Wp.run ok_isu0 1 71 #[.val (.int c)] [(.int (0 : Int32))] rfl ?_
                    exact Wp.retI ok_isu0 (t := .boolean) rfl (by decide) rfl rfl rfl ⟨by rw [if_neg (by unfold UP; omega)], rfl⟩
                  · replace h63 : c = (126 : Int32) := h63
                    have fh63 : c.toInt = 126 := by rw [h63]; decide
                    refine Wp.run ok_isu0 2 71 #[.val (.int c)] [(.int (1 : Int32))] rfl ?_
                    exact Wp.retI ok_isu0 (t := .boolean) rfl (by decide) rfl rfl rfl ⟨by rw [if_pos (by unfold UP; omega)], rfl⟩
          · replace h37 : ¬ (57 : Int32) < c := h37
            have fh37 : c.toInt ≤ 57 := by have z := Int32.not_lt.mp h37; rw [Int32.le_iff_toInt_le, show (57 : Int32).toInt = 57 from by decide] at z; exact z
            refine Wp.run ok_isu0 1 41 #[.val (.int c)] [(.int (1 : Int32))] rfl ?_
            exact Wp.retI ok_isu0 (t := .boolean) rfl (by decide) rfl rfl rfl ⟨by rw [if_pos (by unfold UP; omega)], rfl⟩
      · replace h17 : ¬ c < (97 : Int32) := h17
        have fh17 : 97 ≤ c.toInt := by have z := Int32.not_lt.mp h17; rw [Int32.le_iff_toInt_le, show (97 : Int32).toInt = 97 from by decide] at z; exact z
        refine Wp.run ok_isu0 2 23 #[.val (.int c)] [(.int (122 : Int32)), (.int c)] rfl ?_
        refine Wp.icmp ok_isu0 28 rfl rfl (by decide) (by decide) (fun h23 => ?_) (fun h23 => ?_)
        · replace h23 : (122 : Int32) < c := h23
          have fh23 : 122 < c.toInt := by have z := Int32.lt_iff_toInt_lt.mp h23; rw [show (122 : Int32).toInt = 122 from by decide] at z; exact z
          refine Wp.run ok_isu0 2 31 #[.val (.int c)] [(.int (48 : Int32)), (.int c)] rfl ?_
          refine Wp.icmp ok_isu0 42 rfl rfl (by decide) (by decide) (fun h31 => ?_) (fun h31 => ?_)
          · replace h31 : c < (48 : Int32) := h31
            have fh31 : c.toInt < 48 := by have z := Int32.lt_iff_toInt_lt.mp h31; rw [show (48 : Int32).toInt = 48 from by decide] at z; exact z
            refine Wp.run ok_isu0 2 45 #[.val (.int c)] [(.int (45 : Int32)), (.int c)] rfl ?_
            refine Wp.icmp ok_isu0 66 rfl rfl (by decide) (by decide) (fun h45 => ?_) (fun h45 => ?_)
            · replace h45 : c = (45 : Int32) := h45
              have fh45 : c.toInt = 45 := by rw [h45]; decide
              refine Wp.run ok_isu0 2 71 #[.val (.int c)] [(.int (1 : Int32))] rfl ?_
              exact Wp.retI ok_isu0 (t := .boolean) rfl (by decide) rfl rfl rfl ⟨by rw [if_pos (by unfold UP; omega)], rfl⟩
            · replace h45 : ¬ c = (45 : Int32) := h45
              have fh45 : c.toInt ≠ 45 := fun z => h45 (Int32.toInt_inj.mp (by rw [z]; decide))
              refine Wp.run ok_isu0 2 51 #[.val (.int c)] [(.int (95 : Int32)), (.int c)] rfl ?_
              refine Wp.icmp ok_isu0 66 rfl rfl (by decide) (by decide) (fun h51 => ?_) (fun h51 => ?_)
              · replace h51 : c = (95 : Int32) := h51
                have fh51 : c.toInt = 95 := by rw [h51]; decide
                refine Wp.run ok_isu0 2 71 #[.val (.int c)] [(.int (1 : Int32))] rfl ?_
                exact Wp.retI ok_isu0 (t := .boolean) rfl (by decide) rfl rfl rfl ⟨by rw [if_pos (by unfold UP; omega)], rfl⟩
              · replace h51 : ¬ c = (95 : Int32) := h51
                have fh51 : c.toInt ≠ 95 := fun z => h51 (Int32.toInt_inj.mp (by rw [z]; decide))
                refine Wp.run ok_isu0 2 57 #[.val (.int c)] [(.int (46 : Int32)), (.int c)] rfl ?_
                refine Wp.icmp ok_isu0 66 rfl rfl (by decide) (by decide) (fun h57 => ?_) (fun h57 => ?_)
                · replace h57 : c = (46 : Int32) := h57
                  have fh57 : c.toInt = 46 := by rw [h57]; decide
                  refine Wp.run ok_isu0 2 71 #[.val (.int c)] [(.int (1 : Int32))] rfl ?_
                  exact Wp.retI ok_isu0 (t := .boolean) rfl (by decide) rfl rfl rfl ⟨by rw [if_pos (by unfold UP; omega)], rfl⟩
                · replace h57 : ¬ c = (46 : Int32) := h57
                  have fh57 : c.toInt ≠ 46 := fun z => h57 (Int32.toInt_inj.mp (by rw [z]; decide))
                  refine Wp.run ok_isu0 2 63 #[.val (.int c)] [(.int (126 : Int32)), (.int c)] rfl ?_
                  refine Wp.icmp ok_isu0 70 rfl rfl (by decide) (by decide) (fun h63 => ?_) (fun h63 => ?_)
                  · replace h63 : ¬ c = (126 : Int32) := h63
                    have fh63 : c.toInt ≠ 126 := fun z => h63 (Int32.toInt_inj.mp (by rw [z]; decide))
                    refine Wp.run ok_isu0 1 71 #[.val (.int c)] [(.int (0 : Int32))] rfl ?_
                    exact Wp.retI ok_isu0 (t := .boolean) rfl (by decide) rfl rfl rfl ⟨by rw [if_neg (by unfold UP; omega)], rfl⟩
                  · replace h63 : c = (126 : Int32) := h63
                    have fh63 : c.toInt = 126 := by rw [h63]; decide
                    refine Wp.run ok_isu0 2 71 #[.val (.int c)] [(.int (1 : Int32))] rfl ?_
                    exact Wp.retI ok_isu0 (t := .boolean) rfl (by decide) rfl rfl rfl ⟨by rw [if_pos (by unfold UP; omega)], rfl⟩
          · replace h31 : ¬ c < (48 : Int32) := h31
            have fh31 : 48 ≤ c.toInt := by have z := Int32.not_lt.mp h31; rw [Int32.le_iff_toInt_le, show (48 : Int32).toInt = 48 from by decide] at z; exact z
            refine Wp.run ok_isu0 2 37 #[.val (.int c)] [(.int (57 : Int32)), (.int c)] rfl ?_
            refine Wp.icmp ok_isu0 42 rfl rfl (by decide) (by decide) (fun h37 => ?_) (fun h37 => ?_)
            · replace h37 : (57 : Int32) < c := h37
              have fh37 : 57 < c.toInt := by have z := Int32.lt_iff_toInt_lt.mp h37; rw [show (57 : Int32).toInt = 57 from by decide] at z; exact z
              refine Wp.run ok_isu0 2 45 #[.val (.int c)] [(.int (45 : Int32)), (.int c)] rfl ?_
              refine Wp.icmp ok_isu0 66 rfl rfl (by decide) (by decide) (fun h45 => ?_) (fun h45 => ?_)
              · replace h45 : c = (45 : Int32) := h45
                have fh45 : c.toInt = 45 := by rw [h45]; decide
                refine Wp.run ok_isu0 2 71 #[.val (.int c)] [(.int (1 : Int32))] rfl ?_
                exact Wp.retI ok_isu0 (t := .boolean) rfl (by decide) rfl rfl rfl ⟨by rw [if_pos (by unfold UP; omega)], rfl⟩
              · replace h45 : ¬ c = (45 : Int32) := h45
                have fh45 : c.toInt ≠ 45 := fun z => h45 (Int32.toInt_inj.mp (by rw [z]; decide))
                refine Wp.run ok_isu0 2 51 #[.val (.int c)] [(.int (95 : Int32)), (.int c)] rfl ?_
                refine Wp.icmp ok_isu0 66 rfl rfl (by decide) (by decide) (fun h51 => ?_) (fun h51 => ?_)
                · replace h51 : c = (95 : Int32) := h51
                  have fh51 : c.toInt = 95 := by rw [h51]; decide
                  refine Wp.run ok_isu0 2 71 #[.val (.int c)] [(.int (1 : Int32))] rfl ?_
                  exact Wp.retI ok_isu0 (t := .boolean) rfl (by decide) rfl rfl rfl ⟨by rw [if_pos (by unfold UP; omega)], rfl⟩
                · replace h51 : ¬ c = (95 : Int32) := h51
                  have fh51 : c.toInt ≠ 95 := fun z => h51 (Int32.toInt_inj.mp (by rw [z]; decide))
                  refine Wp.run ok_isu0 2 57 #[.val (.int c)] [(.int (46 : Int32)), (.int c)] rfl ?_
                  refine Wp.icmp ok_isu0 66 rfl rfl (by decide) (by decide) (fun h57 => ?_) (fun h57 => ?_)
                  · replace h57 : c = (46 : Int32) := h57
                    have fh57 : c.toInt = 46 := by rw [h57]; decide
                    refine Wp.run ok_isu0 2 71 #[.val (.int c)] [(.int (1 : Int32))] rfl ?_
                    exact Wp.retI ok_isu0 (t := .boolean) rfl (by decide) rfl rfl rfl ⟨by rw [if_pos (by unfold UP; omega)], rfl⟩
                  · replace h57 : ¬ c = (46 : Int32) := h57
                    have fh57 : c.toInt ≠ 46 := fun z => h57 (Int32.toInt_inj.mp (by rw [z]; decide))
                    refine Wp.run ok_isu0 2 63 #[.val (.int c)] [(.int (126 : Int32)), (.int c)] rfl ?_
                    refine Wp.icmp ok_isu0 70 rfl rfl (by decide) (by decide) (fun h63 => ?_) (fun h63 => ?_)
                    · replace h63 : ¬ c = (126 : Int32) := h63
                      have fh63 : c.toInt ≠ 126 := fun z => h63 (Int32.toInt_inj.mp (by rw [z]; decide))
                      refine Wp.run ok_isu0 1 71 #[.val (.int c)] [(.int (0 : Int32))] rfl ?_
                      exact Wp.retI ok_isu0 (t := .boolean) rfl (by decide) rfl rfl rfl ⟨by rw [if_neg (by unfold UP; omega)], rfl⟩
                    · replace h63 : c = (126 : Int32) := h63
                      have fh63 : c.toInt = 126 := by rw [h63]; decide
                      refine Wp.run ok_isu0 2 71 #[.val (.int c)] [(.int (1 : Int32))] rfl ?_
                      exact Wp.retI ok_isu0 (t := .boolean) rfl (by decide) rfl rfl rfl ⟨by rw [if_pos (by unfold UP; omega)], rfl⟩
            · replace h37 : ¬ (57 : Int32) < c := h37
              have fh37 : c.toInt ≤ 57 := by have z := Int32.not_lt.mp h37; rw [Int32.le_iff_toInt_le, show (57 : Int32).toInt = 57 from by decide] at z; exact z
              refine Wp.run ok_isu0 1 41 #[.val (.int c)] [(.int (1 : Int32))] rfl ?_
              exact Wp.retI ok_isu0 (t := .boolean) rfl (by decide) rfl rfl rfl ⟨by rw [if_pos (by unfold UP; omega)], rfl⟩
        · replace h23 : ¬ (122 : Int32) < c := h23
          have fh23 : c.toInt ≤ 122 := by have z := Int32.not_lt.mp h23; rw [Int32.le_iff_toInt_le, show (122 : Int32).toInt = 122 from by decide] at z; exact z
          refine Wp.run ok_isu0 1 27 #[.val (.int c)] [(.int (1 : Int32))] rfl ?_
          exact Wp.retI ok_isu0 (t := .boolean) rfl (by decide) rfl rfl rfl ⟨by rw [if_pos (by unfold UP; omega)], rfl⟩
    · replace h9 : ¬ (90 : Int32) < c := h9
      have fh9 : c.toInt ≤ 90 := by have z := Int32.not_lt.mp h9; rw [Int32.le_iff_toInt_le, show (90 : Int32).toInt = 90 from by decide] at z; exact z
      refine Wp.run ok_isu0 1 13 #[.val (.int c)] [(.int (1 : Int32))] rfl ?_
      exact Wp.retI ok_isu0 (t := .boolean) rfl (by decide) rfl rfl rfl ⟨by rw [if_pos (by unfold UP; omega)], rfl⟩

abbrev mt_okk : Mth := (⟨"countersign/canonical/PercentIsUnreservedPinLaw", "ok", "(IIIC)Z"⟩, method_4_code, 4, some .boolean)
def tb_okk : Tab := [(0, .iload_n 0, 1), (1, .iload_n 1, 1), (2, .if_icmp .lt 15, 3), (5, .iload_n 0, 1), (6, .iload_n 2, 1), (7, .if_icmp .ge 10, 3), (10, .iload_n 3, 1), (11, .invokestatic 9, 3), (14, .ifCond .eq 7, 3), (17, .iconst 1, 1), (18, .goto 4, 3), (21, .iconst 0, 1), (22, .ireturn, 1)]
theorem ok_okk : TabOk mt_okk.2.1 tb_okk := by
  intro x hx
  have q : tb_okk.all (fun x => decide (decode method_4_code x.1 = .ok x.2)) = true := by decide +kernel
  exact of_decide_eq_true (List.all_eq_true.mp q x hx)
theorem pl_okk : plainFor mt_okk.1 = true := by first | decide +kernel | exact plainFor_of_name (by first | (simp [plainName, overriddenIn]; done) | decide +kernel)
theorem pd_okk : parseMethodDescriptor "(IIIC)Z" = some ⟨[.int, .int, .int, .char], some .boolean⟩ := by decide +kernel

set_option maxRecDepth 65536 in
set_option maxHeartbeats 4000000 in
theorem ct_okk {l : Launch} {Z : State} {a0 : Array Value} (G : Gd Z a0) {i s e : Nat} {c : Int32} (hi : i ≤ 4) (hs : s ≤ 4) (he : e ≤ 4) (h : Heap)  :
    Ct l Z EL1 mt_okk ({ frames := 1, cells := 0, slots := 0, locals := 12 } : Room) #[(.int (Int32.ofNat i)), (.int (Int32.ofNat s)), (.int (Int32.ofNat e)), (.int c)] h [] (fun v h' => ∃ r : Int32, v = some (.int r) ∧ h = h' ∧ ((r = 1 ∧ (s ≤ i → i < e → UP c)) ∨ (r = 0 ∧ s ≤ i ∧ i < e ∧ ¬ UP c))) := by
  refine Ct.of_wp pl_okk G.2.1 (Ls := #[.val (.int (Int32.ofNat i)), .val (.int (Int32.ofNat s)), .val (.int (Int32.ofNat e)), .val (.int c)]) rfl ?_
  refine Wp.run ok_okk 2 2 #[.val (.int (Int32.ofNat i)), .val (.int (Int32.ofNat s)), .val (.int (Int32.ofNat e)), .val (.int c)] [(.int (Int32.ofNat s)), (.int (Int32.ofNat i))] rfl ?_
  refine Wp.icmp ok_okk 17 rfl rfl (by decide) (by decide) (fun h2 => ?_) (fun h2 => ?_)
  · replace h2 : (Int32.ofNat i) < (Int32.ofNat s) := h2
    have g : i < s := (n_lt (by omega) (by omega)).mp h2
    refine Wp.run ok_okk 2 22 #[.val (.int (Int32.ofNat i)), .val (.int (Int32.ofNat s)), .val (.int (Int32.ofNat e)), .val (.int c)] [(.int (1 : Int32))] rfl ?_
    exact Wp.retI ok_okk (t := .boolean) rfl (by decide) rfl rfl rfl ⟨_, rfl, rfl, Or.inl ⟨rfl, fun z => absurd z (by omega)⟩⟩
  · replace h2 : ¬ (Int32.ofNat i) < (Int32.ofNat s) := h2
    have g : s ≤ i := Nat.le_of_not_lt fun z => h2 ((n_lt (by omega) (by omega)).mpr z)
    refine Wp.run ok_okk 2 7 #[.val (.int (Int32.ofNat i)), .val (.int (Int32.ofNat s)), .val (.int (Int32.ofNat e)), .val (.int c)] [(.int (Int32.ofNat e)), (.int (Int32.ofNat i))] rfl ?_
    refine Wp.icmp ok_okk 17 rfl rfl (by decide) (by decide) (fun h7 => ?_) (fun h7 => ?_)
    · replace h7 : ¬ (Int32.ofNat i) < (Int32.ofNat e) := h7
      have g2 : e ≤ i := Nat.le_of_not_lt fun z => h7 ((n_lt (by omega) (by omega)).mpr z)
      refine Wp.run ok_okk 2 22 #[.val (.int (Int32.ofNat i)), .val (.int (Int32.ofNat s)), .val (.int (Int32.ofNat e)), .val (.int c)] [(.int (1 : Int32))] rfl ?_
      exact Wp.retI ok_okk (t := .boolean) rfl (by decide) rfl rfl rfl ⟨_, rfl, rfl, Or.inl ⟨rfl, fun _ z => absurd z (by omega)⟩⟩
    · replace h7 : (Int32.ofNat i) < (Int32.ofNat e) := h7
      have g2 : i < e := (n_lt (by omega) (by omega)).mp h7
      refine Wp.run ok_okk 1 11 #[.val (.int (Int32.ofNat i)), .val (.int (Int32.ofNat s)), .val (.int (Int32.ofNat e)), .val (.int c)] [(.int c)] rfl ?_
      refine Wp.callS ok_okk (argsL := [(.int c)]) (rest := []) (ct_isu0 G (c := c) h) G.2.1 (G.1 _ (List.mem_of_getElem? (i := 46) rfl)) (G.1 _ (List.mem_of_getElem? (i := 47) rfl)) (G.1 _ (List.mem_of_getElem? (i := 2) rfl)) (G.1 _ (List.mem_of_getElem? (i := 48) rfl)) rfl rfl (by decide) pd_isu0 rfl rfl (Nat.le_of_ble_eq_true rfl) (Nat.le_of_ble_eq_true rfl) (Nat.le_of_ble_eq_true rfl) (Nat.le_of_ble_eq_true rfl) all0 ?_
      rintro _ _ ⟨rfl, rfl⟩ -
      by_cases hu : UP c
      · refine Wp.at #[.val (.int (Int32.ofNat i)), .val (.int (Int32.ofNat s)), .val (.int (Int32.ofNat e)), .val (.int c)] [(.int 1)] ⟨rfl, (by rw [if_pos hu] <;> rfl)⟩ ?_
        refine Wp.ifF ok_okk rfl rfl (show ¬ 1 = (0 : Int32) from by decide) ?_
        refine Wp.run ok_okk 2 22 #[.val (.int (Int32.ofNat i)), .val (.int (Int32.ofNat s)), .val (.int (Int32.ofNat e)), .val (.int c)] [(.int (1 : Int32))] rfl ?_
        exact Wp.retI ok_okk (t := .boolean) rfl (by decide) rfl rfl rfl ⟨_, rfl, rfl, Or.inl ⟨rfl, fun _ _ => hu⟩⟩
      · refine Wp.at #[.val (.int (Int32.ofNat i)), .val (.int (Int32.ofNat s)), .val (.int (Int32.ofNat e)), .val (.int c)] [(.int 0)] ⟨rfl, (by rw [if_neg hu] <;> rfl)⟩ ?_
        refine Wp.ifT ok_okk 21 rfl rfl (show 0 = (0 : Int32) from rfl) (by decide) (by decide) ?_
        refine Wp.run ok_okk 1 22 #[.val (.int (Int32.ofNat i)), .val (.int (Int32.ofNat s)), .val (.int (Int32.ofNat e)), .val (.int c)] [(.int (0 : Int32))] rfl ?_
        exact Wp.retI ok_okk (t := .boolean) rfl (by decide) rfl rfl rfl ⟨_, rfl, rfl, Or.inr ⟨rfl, g, g2, hu⟩⟩

abbrev mt_sai : Mth := (⟨"countersign/canonical/Percent", "standsAsItIs", "(IZ)Z"⟩, prog_18_method_6_code, 2, some .boolean)
def tb_sai : Tab := [(0, .iload_n 0, 1), (1, .getstatic 51, 3), (4, .arraylength, 1), (5, .if_icmp .ge 11, 3), (8, .getstatic 51, 3), (11, .iload_n 0, 1), (12, .baload, 1), (13, .ifCond .ne 13, 3), (16, .iload_n 1, 1), (17, .ifCond .eq 13, 3), (20, .iload_n 0, 1), (21, .bipush 47, 2), (23, .if_icmp .ne 7, 3), (26, .iconst 1, 1), (27, .goto 4, 3), (30, .iconst 0, 1), (31, .ireturn, 1)]
theorem ok_sai : TabOk mt_sai.2.1 tb_sai := by
  intro x hx
  have q : tb_sai.all (fun x => decide (decode prog_18_method_6_code x.1 = .ok x.2)) = true := by decide +kernel
  exact of_decide_eq_true (List.all_eq_true.mp q x hx)
theorem pl_sai : plainFor mt_sai.1 = true := by first | decide +kernel | exact plainFor_of_name (by first | (simp [plainName, overriddenIn]; done) | decide +kernel)
theorem pd_sai : parseMethodDescriptor "(IZ)Z" = some ⟨[.int, .boolean], some .boolean⟩ := by decide +kernel

set_option maxRecDepth 65536 in
set_option maxHeartbeats 4000000 in
theorem ct_sai {l : Launch} {Z : State} {a0 : Array Value} (G : Gd Z a0) {c : Int32} (hw : 0 ≤ c.toInt ∧ c.toInt ≤ 65535) (h : Heap)  :
    Ct l Z EL1 mt_sai ({ frames := 0, cells := 0, slots := 0, locals := 0 } : Room) #[(.int c), (.int 0)] h [] (fun v h' => v = some (.int (if UP c then 1 else 0)) ∧ h = h') := by
  refine Ct.of_wp pl_sai G.2.1 (Ls := #[.val (.int c), .val (.int 0)]) rfl ?_
  obtain ⟨ua, sU, rU⟩ := G.2.2.2.2.2
  refine Wp.old fun hX => ?_
  have ec := (n_of hw.1).1
  have huv := uv_up hw.1
  refine Wp.run ok_sai 1 1 #[.val (.int c), .val (.int 0)] [(.int c)] rfl ?_
  refine Wp.getS ok_sai sU (G.1 _ (List.mem_of_getElem? (i := 78) rfl)) Via.refl rfl ?_
  refine Wp.alen ok_sai (rU.ext hX) rfl rfl ?_
  refine Wp.at #[.val (.int c), .val (.int 0)] [(.int 128), (.int c)] ⟨rfl, (by rw [List.length_map, tbl_len] <;> rfl)⟩ ?_
  refine Wp.icmp ok_sai 16 rfl rfl (by decide) (by decide) (fun hc => ?_) (fun hc => ?_)
  · replace hc : ¬ c < 128 := hc
    have g : 128 ≤ c.toInt := by have z := Int32.not_lt.mp hc; rw [Int32.le_iff_toInt_le, show (128 : Int32).toInt = 128 from by decide] at z; exact z
    refine Wp.run ok_sai 1 17 #[.val (.int c), .val (.int 0)] [(.int 0)] rfl ?_
    refine Wp.ifT ok_sai 30 rfl rfl (show 0 = (0 : Int32) from rfl) (by decide) (by decide) ?_
    refine Wp.run ok_sai 1 31 #[.val (.int c), .val (.int 0)] [(.int (0 : Int32))] rfl ?_
    exact Wp.retI ok_sai (t := .boolean) rfl (by decide) rfl rfl rfl ⟨by rw [if_neg (by unfold UP; omega)], rfl⟩
  · replace hc : c < 128 := hc
    have g : c.toInt < 128 := by have z := Int32.lt_iff_toInt_lt.mp hc; rw [show (128 : Int32).toInt = 128 from by decide] at z; exact z
    refine Wp.getS ok_sai sU (G.1 _ (List.mem_of_getElem? (i := 78) rfl)) Via.refl rfl ?_
    refine Wp.run ok_sai 1 12 #[.val (.int c), .val (.int 0)] [(.int c), (.ref ua)] rfl ?_
    refine Wp.at #[.val (.int c), .val (.int 0)] [(.int (Int32.ofNat c.toInt.toNat)), (.ref ua)] ⟨rfl, (by rw [← ec] <;> rfl)⟩ ?_
    refine Wp.aget ok_sai (rU.ext hX) (i := c.toInt.toNat) (v := (.int (uv c.toInt.toNat))) rfl (by rw [List.getElem?_map, tbl_at (by omega)]; rfl) rfl rfl rfl ?_
    by_cases hu : UP c
    · refine Wp.at #[.val (.int c), .val (.int 0)] [(.int 1)] ⟨rfl, (by rw [huv, if_pos hu] <;> rfl)⟩ ?_
      refine Wp.ifT ok_sai 26 rfl rfl (show ¬ 1 = (0 : Int32) from by decide) (by decide) (by decide) ?_
      refine Wp.run ok_sai 2 31 #[.val (.int c), .val (.int 0)] [(.int (1 : Int32))] rfl ?_
      exact Wp.retI ok_sai (t := .boolean) rfl (by decide) rfl rfl rfl ⟨by rw [if_pos hu], rfl⟩
    · refine Wp.at #[.val (.int c), .val (.int 0)] [(.int 0)] ⟨rfl, (by rw [huv, if_neg hu] <;> rfl)⟩ ?_
      refine Wp.ifF ok_sai rfl rfl (show 0 = (0 : Int32) from rfl) ?_
      refine Wp.run ok_sai 1 17 #[.val (.int c), .val (.int 0)] [(.int 0)] rfl ?_
      refine Wp.ifT ok_sai 30 rfl rfl (show 0 = (0 : Int32) from rfl) (by decide) (by decide) ?_
      refine Wp.run ok_sai 1 31 #[.val (.int c), .val (.int 0)] [(.int (0 : Int32))] rfl ?_
      exact Wp.retI ok_sai (t := .boolean) rfl (by decide) rfl rfl rfl ⟨by rw [if_neg hu], rfl⟩

abbrev mt_unr : Mth := (⟨"countersign/canonical/Percent", "isUnreserved", "(Ljava/lang/String;II)Z"⟩, prog_18_method_5_code, 4, some .boolean)
def tb_unr : Tab := [(0, .iload_n 1, 1), (1, .istore_n 3, 1), (2, .iload_n 3, 1), (3, .iload_n 2, 1), (4, .if_icmp .ge 23, 3), (7, .aload_n 0, 1), (8, .iload_n 3, 1), (9, .invokevirtual 19, 3), (12, .iconst 0, 1), (13, .invokestatic 23, 3), (16, .ifCond .ne 5, 3), (19, .iconst 0, 1), (20, .ireturn, 1), (21, .iinc 3 1, 3), (24, .goto (-22), 3), (27, .iconst 1, 1), (28, .ireturn, 1)]
theorem ok_unr : TabOk mt_unr.2.1 tb_unr := by
  intro x hx
  have q : tb_unr.all (fun x => decide (decode prog_18_method_5_code x.1 = .ok x.2)) = true := by decide +kernel
  exact of_decide_eq_true (List.all_eq_true.mp q x hx)
theorem pl_unr : plainFor mt_unr.1 = true := by first | decide +kernel | exact plainFor_of_name (by first | (simp [plainName, overriddenIn]; done) | decide +kernel)
theorem pd_unr : parseMethodDescriptor "(Ljava/lang/String;II)Z" = some ⟨[(.object "java/lang/String"), .int, .int], some .boolean⟩ := by decide +kernel

set_option maxRecDepth 65536 in
set_option maxHeartbeats 4000000 in
theorem lp_unr {l : Launch} {Z : State} {a0 : Array Value} (G : Gd Z a0) {a : Addr} {cs : List Int32} {s e : Nat} {h : Heap} (hse : s ≤ e) (he : e ≤ cs.length) (h31 : cs.length < 2 ^ 31) (S1 : StrG Z h a cs) : ∀ (r i : Nat), i + r = e → s ≤ i → (∀ j c, s ≤ j → j < i → cs[j]? = some c → UP c) →
    Wp l Z EL1 mt_unr ({ frames := 5, cells := 0, slots := 0, locals := 66 } : Room) h [] 0 0 2 #[.val (.ref a), .val (.int (Int32.ofNat s)), .val (.int (Int32.ofNat e)), .val (.int (Int32.ofNat i))] [] (fun v h' => ∃ r : Int32, v = some (.int r) ∧ h = h' ∧ ((r = 1 ∧ (∀ j c, s ≤ j → j < e → cs[j]? = some c → UP c)) ∨ (r = 0 ∧ ¬ (∀ j c, s ≤ j → j < e → cs[j]? = some c → UP c)))) := by
  intro r
  induction r with
  | zero =>
    intro i hi hsi hp
    obtain rfl : i = e := by omega
    refine Wp.run ok_unr 2 4 #[.val (.ref a), .val (.int (Int32.ofNat s)), .val (.int (Int32.ofNat i)), .val (.int (Int32.ofNat i))] [(.int (Int32.ofNat i)), (.int (Int32.ofNat i))] rfl ?_
    refine Wp.icmpT ok_unr 27 rfl rfl (show ¬ (Int32.ofNat i) < (Int32.ofNat i) from Int32.lt_irrefl) (by decide) (by decide) ?_
    refine Wp.run ok_unr 1 28 #[.val (.ref a), .val (.int (Int32.ofNat s)), .val (.int (Int32.ofNat i)), .val (.int (Int32.ofNat i))] [(.int (1 : Int32))] rfl ?_
    exact Wp.retI ok_unr (t := .boolean) rfl (by decide) rfl rfl rfl ⟨_, rfl, rfl, Or.inl ⟨rfl, hp⟩⟩
  | succ r ih =>
    intro i hi hsi hp
    obtain ⟨c, hc⟩ : ∃ c, cs[i]? = some c := ⟨_, List.getElem?_eq_getElem (by omega)⟩
    refine Wp.run ok_unr 2 4 #[.val (.ref a), .val (.int (Int32.ofNat s)), .val (.int (Int32.ofNat e)), .val (.int (Int32.ofNat i))] [(.int (Int32.ofNat e)), (.int (Int32.ofNat i))] rfl ?_
    refine Wp.icmpF ok_unr rfl rfl (show (Int32.ofNat i) < (Int32.ofNat e) from (n_lt (by omega) (by omega)).mpr (by omega)) ?_
    refine Wp.run ok_unr 2 9 #[.val (.ref a), .val (.int (Int32.ofNat s)), .val (.int (Int32.ofNat e)), .val (.int (Int32.ofNat i))] [(.int (Int32.ofNat i)), (.ref a)] rfl ?_
    refine Wp.callV ok_unr (a := a) (argsL := [(.int (Int32.ofNat i))]) (rest := []) (ct_chg G hc h S1) S1.exa G.2.1 (G.1 _ (List.mem_of_getElem? (i := 53) rfl)) (G.1 _ (List.mem_of_getElem? (i := 54) rfl)) (G.1 _ (List.mem_of_getElem? (i := 56) rfl)) (G.1 _ (List.mem_of_getElem? (i := 55) rfl)) (G.1 _ (List.mem_of_getElem? (i := 8) rfl)) (G.1 _ (List.mem_of_getElem? (i := 57) rfl)) rfl rfl (by decide) pd_cha rfl rfl (Nat.le_of_ble_eq_true rfl) (Nat.le_of_ble_eq_true rfl) (Nat.le_of_ble_eq_true rfl) (Nat.le_of_ble_eq_true rfl) all0 ?_
    rintro _ _ ⟨rfl, rfl⟩ -
    refine Wp.run ok_unr 1 13 #[.val (.ref a), .val (.int (Int32.ofNat s)), .val (.int (Int32.ofNat e)), .val (.int (Int32.ofNat i))] [(.int (0 : Int32)), (.int c)] rfl ?_
    refine Wp.callS ok_unr (argsL := [(.int c), (.int (0 : Int32))]) (rest := []) (ct_sai G (S1.w16.at hc) h) G.2.1 (G.1 _ (List.mem_of_getElem? (i := 75) rfl)) (G.1 _ (List.mem_of_getElem? (i := 76) rfl)) (G.1 _ (List.mem_of_getElem? (i := 51) rfl)) (G.1 _ (List.mem_of_getElem? (i := 77) rfl)) rfl rfl (by decide) pd_sai rfl rfl (Nat.le_of_ble_eq_true rfl) (Nat.le_of_ble_eq_true rfl) (Nat.le_of_ble_eq_true rfl) (Nat.le_of_ble_eq_true rfl) all0 ?_
    rintro _ _ ⟨rfl, rfl⟩ -
    by_cases hu : UP c
    · refine Wp.at #[.val (.ref a), .val (.int (Int32.ofNat s)), .val (.int (Int32.ofNat e)), .val (.int (Int32.ofNat i))] [(.int 1)] ⟨rfl, (by rw [if_pos hu] <;> rfl)⟩ ?_
      refine Wp.ifT ok_unr 21 rfl rfl (show ¬ 1 = (0 : Int32) from by decide) (by decide) (by decide) ?_
      refine Wp.run ok_unr 2 2 #[.val (.ref a), .val (.int (Int32.ofNat s)), .val (.int (Int32.ofNat e)), .val (.int ((Int32.ofNat i) + (1 : Int32)))] [] rfl ?_
      refine Wp.at #[.val (.ref a), .val (.int (Int32.ofNat s)), .val (.int (Int32.ofNat e)), .val (.int (Int32.ofNat (i + 1)))] [] ⟨by simp only [n_succ], rfl⟩ ?_
      exact Wp.up (Nat.le_of_ble_eq_true rfl) (Nat.le_of_ble_eq_true rfl) (Nat.le_of_ble_eq_true rfl) (Nat.le_of_ble_eq_true rfl) all0 (ih (i + 1) (by omega) (by omega) (fun j d h1 h2 h3 => by
        rcases Nat.lt_or_eq_of_le (Nat.le_of_lt_succ h2) with z | z
        · exact hp j d h1 z h3
        · subst z; cases Option.some.inj (h3.symm.trans hc); exact hu))
    · refine Wp.at #[.val (.ref a), .val (.int (Int32.ofNat s)), .val (.int (Int32.ofNat e)), .val (.int (Int32.ofNat i))] [(.int 0)] ⟨rfl, (by rw [if_neg hu] <;> rfl)⟩ ?_
      refine Wp.ifF ok_unr rfl rfl (show 0 = (0 : Int32) from rfl) ?_
      refine Wp.run ok_unr 1 20 #[.val (.ref a), .val (.int (Int32.ofNat s)), .val (.int (Int32.ofNat e)), .val (.int (Int32.ofNat i))] [(.int (0 : Int32))] rfl ?_
      exact Wp.retI ok_unr (t := .boolean) rfl (by decide) rfl rfl rfl ⟨_, rfl, rfl, Or.inr ⟨rfl, fun z => hu (z i c hsi (by omega) hc)⟩⟩

set_option maxRecDepth 65536 in
set_option maxHeartbeats 4000000 in
theorem ct_unr {l : Launch} {Z : State} {a0 : Array Value} (G : Gd Z a0) {a : Addr} {cs : List Int32} {s e : Nat} (hse : s ≤ e) (he : e ≤ cs.length) (h31 : cs.length < 2 ^ 31) (h : Heap) (S1 : StrG Z h a cs) :
    Ct l Z EL1 mt_unr ({ frames := 5, cells := 0, slots := 0, locals := 66 } : Room) #[(.ref a), (.int (Int32.ofNat s)), (.int (Int32.ofNat e))] h [] (fun v h' => ∃ r : Int32, v = some (.int r) ∧ h = h' ∧ ((r = 1 ∧ (∀ j c, s ≤ j → j < e → cs[j]? = some c → UP c)) ∨ (r = 0 ∧ ¬ (∀ j c, s ≤ j → j < e → cs[j]? = some c → UP c)))) := by
  refine Ct.of_wp pl_unr G.2.1 (Ls := #[.val (.ref a), .val (.int (Int32.ofNat s)), .val (.int (Int32.ofNat e)), .unset]) rfl ?_
  refine Wp.run ok_unr 2 2 #[.val (.ref a), .val (.int (Int32.ofNat s)), .val (.int (Int32.ofNat e)), .val (.int (Int32.ofNat s))] [] rfl ?_
  exact lp_unr G hse he h31 S1 (e - s) s (by omega) (Nat.le_refl _) (fun j c h1 h2 => absurd h2 (by omega))
end Jvm.Pilot.@@N@@
namespace Jvm.Pilot.@@N@@
open Jvm Jvm.ClassFile Sem Op Lib Jvm.Free Jvm.Stand Jvm.LawKit Jvm.RoadKit Bundle Jvm.Pilot.@@N@@.Jvm.D Jvm.Pilot.@@N@@.Kw
abbrev mt_law : Mth := (x, code, maxLocals, ret)
def tb_law : Tab := [(0, .iload_n 0, 1), (1, .invokestatic 15, 3), (4, .istore 6, 2), (6, .iload_n 1, 1), (7, .invokestatic 15, 3), (10, .istore 7, 2), (12, .iload_n 2, 1), (13, .invokestatic 15, 3), (16, .istore 8, 2), (18, .iload_n 3, 1), (19, .invokestatic 15, 3), (22, .istore 9, 2), (24, .iconst 4, 1), (25, .newarray .char, 2), (27, .astore 10, 2), (29, .aload 10, 2), (31, .iconst 0, 1), (32, .iload 6, 2), (34, .castore, 1), (35, .aload 10, 2), (37, .iconst 1, 1), (38, .iload 7, 2), (40, .castore, 1), (41, .aload 10, 2), (43, .iconst 2, 1), (44, .iload 8, 2), (46, .castore, 1), (47, .aload 10, 2), (49, .iconst 3, 1), (50, .iload 9, 2), (52, .castore, 1), (53, .new 19, 3), (56, .dup, 1), (57, .aload 10, 2), (59, .invokespecial 21, 3), (62, .astore 11, 2), (64, .iload 4, 2), (66, .ldc 24, 2), (68, .iand, 1), (69, .iconst 5, 1), (70, .irem, 1), (71, .istore 12, 2), (73, .iload 5, 2), (75, .ldc 24, 2), (77, .iand, 1), (78, .iconst 5, 1), (79, .irem, 1), (80, .istore 13, 2), (82, .iload 12, 2), (84, .iload 13, 2), (86, .invokestatic 25, 3), (89, .istore 14, 2), (91, .iload 12, 2), (93, .iload 13, 2), (95, .invokestatic 31, 3), (98, .istore 15, 2), (100, .iconst 0, 1), (101, .iload 14, 2), (103, .iload 15, 2), (105, .iload 6, 2), (107, .invokestatic 34, 3), (110, .ifCond .eq 46, 3), (113, .iconst 1, 1), (114, .iload 14, 2), (116, .iload 15, 2), (118, .iload 7, 2), (120, .invokestatic 34, 3), (123, .ifCond .eq 33, 3), (126, .iconst 2, 1), (127, .iload 14, 2), (129, .iload 15, 2), (131, .iload 8, 2), (133, .invokestatic 34, 3), (136, .ifCond .eq 20, 3), (139, .iconst 3, 1), (140, .iload 14, 2), (142, .iload 15, 2), (144, .iload 9, 2), (146, .invokestatic 34, 3), (149, .ifCond .eq 7, 3), (152, .iconst 1, 1), (153, .goto 4, 3), (156, .iconst 0, 1), (157, .istore 16, 2), (159, .aload 11, 2), (161, .iload 14, 2), (163, .iload 15, 2), (165, .invokestatic 38, 3), (168, .iload 16, 2), (170, .if_icmp .ne 7, 3), (173, .iconst 1, 1), (174, .goto 4, 3), (177, .iconst 0, 1), (178, .ireturn, 1)]
theorem ok_law : TabOk mt_law.2.1 tb_law := by
  intro x hx
  have q : tb_law.all (fun x => decide (decode code x.1 = .ok x.2)) = true := by decide +kernel
  exact of_decide_eq_true (List.all_eq_true.mp q x hx)
theorem pl_law : plainFor mt_law.1 = true := by first | decide +kernel | exact plainFor_of_name (by first | (simp [plainName, overriddenIn]; done) | decide +kernel)
theorem pd_law : parseMethodDescriptor "(IIIIII)Z" = some ⟨[.int, .int, .int, .int, .int, .int], some .boolean⟩ := by decide +kernel

set_option maxRecDepth 65536 in
set_option maxHeartbeats 8000000 in
theorem ct_law {l : Launch} {Z : State} {a0 : Array Value} (G : Gd Z a0) (i0 : Int32) (i1 : Int32) (i2 : Int32) (i3 : Int32) (i4 : Int32) (i5 : Int32) (h : Heap) :
    CtW tables_1 l Z EL1 mt_law room_1 #[(.int i0), (.int i1), (.int i2), (.int i3), (.int i4), (.int i5)] h [] (fun v _ => v = some (.int 1)) := by
  refine Ct.of_wp pl_law G.2.1 (Ls := #[.val (.int i0), .val (.int i1), .val (.int i2), .val (.int i3), .val (.int i4), .val (.int i5), .unset, .unset, .unset, .unset, .unset, .unset, .unset, .unset, .unset, .unset, .unset]) rfl ?_
  refine Wp.run ok_law 1 1 #[.val (.int i0), .val (.int i1), .val (.int i2), .val (.int i3), .val (.int i4), .val (.int i5), .unset, .unset, .unset, .unset, .unset, .unset, .unset, .unset, .unset, .unset, .unset] [(.int i0)] rfl ?_
  refine Wp.callS ok_law (argsL := [(.int i0)]) (rest := []) (ct_drw G (x := i0) h) G.2.1 (G.1 _ (List.mem_of_getElem? (i := 0) rfl)) (G.1 _ (List.mem_of_getElem? (i := 1) rfl)) (G.1 _ (List.mem_of_getElem? (i := 2) rfl)) (G.1 _ (List.mem_of_getElem? (i := 3) rfl)) rfl rfl (by decide) pd_drw rfl rfl (Nat.le_of_ble_eq_true rfl) (Nat.le_of_ble_eq_true rfl) (Nat.le_of_ble_eq_true rfl) (Nat.le_of_ble_eq_true rfl) all0 ?_
  rintro _ _ ⟨c0, rfl, rfl, L0⟩ -
  refine Wp.run ok_law 2 7 #[.val (.int i0), .val (.int i1), .val (.int i2), .val (.int i3), .val (.int i4), .val (.int i5), .val (.int c0), .unset, .unset, .unset, .unset, .unset, .unset, .unset, .unset, .unset, .unset] [(.int i1)] rfl ?_
  refine Wp.callS ok_law (argsL := [(.int i1)]) (rest := []) (ct_drw G (x := i1) h) G.2.1 (G.1 _ (List.mem_of_getElem? (i := 0) rfl)) (G.1 _ (List.mem_of_getElem? (i := 1) rfl)) (G.1 _ (List.mem_of_getElem? (i := 2) rfl)) (G.1 _ (List.mem_of_getElem? (i := 3) rfl)) rfl rfl (by decide) pd_drw rfl rfl (Nat.le_of_ble_eq_true rfl) (Nat.le_of_ble_eq_true rfl) (Nat.le_of_ble_eq_true rfl) (Nat.le_of_ble_eq_true rfl) all0 ?_
  rintro _ _ ⟨c1, rfl, rfl, L1⟩ -
  refine Wp.run ok_law 2 13 #[.val (.int i0), .val (.int i1), .val (.int i2), .val (.int i3), .val (.int i4), .val (.int i5), .val (.int c0), .val (.int c1), .unset, .unset, .unset, .unset, .unset, .unset, .unset, .unset, .unset] [(.int i2)] rfl ?_
  refine Wp.callS ok_law (argsL := [(.int i2)]) (rest := []) (ct_drw G (x := i2) h) G.2.1 (G.1 _ (List.mem_of_getElem? (i := 0) rfl)) (G.1 _ (List.mem_of_getElem? (i := 1) rfl)) (G.1 _ (List.mem_of_getElem? (i := 2) rfl)) (G.1 _ (List.mem_of_getElem? (i := 3) rfl)) rfl rfl (by decide) pd_drw rfl rfl (Nat.le_of_ble_eq_true rfl) (Nat.le_of_ble_eq_true rfl) (Nat.le_of_ble_eq_true rfl) (Nat.le_of_ble_eq_true rfl) all0 ?_
  rintro _ _ ⟨c2, rfl, rfl, L2⟩ -
  refine Wp.run ok_law 2 19 #[.val (.int i0), .val (.int i1), .val (.int i2), .val (.int i3), .val (.int i4), .val (.int i5), .val (.int c0), .val (.int c1), .val (.int c2), .unset, .unset, .unset, .unset, .unset, .unset, .unset, .unset] [(.int i3)] rfl ?_
  refine Wp.callS ok_law (argsL := [(.int i3)]) (rest := []) (ct_drw G (x := i3) h) G.2.1 (G.1 _ (List.mem_of_getElem? (i := 0) rfl)) (G.1 _ (List.mem_of_getElem? (i := 1) rfl)) (G.1 _ (List.mem_of_getElem? (i := 2) rfl)) (G.1 _ (List.mem_of_getElem? (i := 3) rfl)) rfl rfl (by decide) pd_drw rfl rfl (Nat.le_of_ble_eq_true rfl) (Nat.le_of_ble_eq_true rfl) (Nat.le_of_ble_eq_true rfl) (Nat.le_of_ble_eq_true rfl) all0 ?_
  rintro _ _ ⟨c3, rfl, rfl, L3⟩ -
  refine Wp.run ok_law 2 25 #[.val (.int i0), .val (.int i1), .val (.int i2), .val (.int i3), .val (.int i4), .val (.int i5), .val (.int c0), .val (.int c1), .val (.int c2), .val (.int c3), .unset, .unset, .unset, .unset, .unset, .unset, .unset] [(.int (4 : Int32))] rfl ?_
  refine Wp.newP ok_law (len := 4) (cap := 4) (G.1 _ (List.mem_of_getElem? (i := 5) rfl)) rfl rfl rfl (Nat.le_of_ble_eq_true rfl) (Nat.le_of_ble_eq_true rfl) (Nat.le_of_ble_eq_true rfl) (Nat.le_of_ble_eq_true rfl) ?_
  intro hm Em Am
  refine Wp.run ok_law 4 34 #[.val (.int i0), .val (.int i1), .val (.int i2), .val (.int i3), .val (.int i4), .val (.int i5), .val (.int c0), .val (.int c1), .val (.int c2), .val (.int c3), .val (.ref h.size), .unset, .unset, .unset, .unset, .unset, .unset] [(.int c0), (.int (0 : Int32)), (.ref h.size)] rfl ?_
  refine Wp.aput ok_law Am (List.mem_of_getElem? (i := 0) rfl) (i := 0) rfl (Nat.le_of_ble_eq_true rfl) rfl (fitw L0) rfl rfl rfl ?_
  intro hq1 wq2 Aq3
  refine Wp.run ok_law 3 40 #[.val (.int i0), .val (.int i1), .val (.int i2), .val (.int i3), .val (.int i4), .val (.int i5), .val (.int c0), .val (.int c1), .val (.int c2), .val (.int c3), .val (.ref h.size), .unset, .unset, .unset, .unset, .unset, .unset] [(.int c1), (.int (1 : Int32)), (.ref h.size)] rfl ?_
  refine Wp.aput ok_law Aq3 (List.mem_of_getElem? (i := 0) rfl) (i := 1) rfl (Nat.le_of_ble_eq_true rfl) rfl (fitw L1) rfl rfl rfl ?_
  intro hq4 wq5 Aq6
  refine Wp.run ok_law 3 46 #[.val (.int i0), .val (.int i1), .val (.int i2), .val (.int i3), .val (.int i4), .val (.int i5), .val (.int c0), .val (.int c1), .val (.int c2), .val (.int c3), .val (.ref h.size), .unset, .unset, .unset, .unset, .unset, .unset] [(.int c2), (.int (2 : Int32)), (.ref h.size)] rfl ?_
  refine Wp.aput ok_law Aq6 (List.mem_of_getElem? (i := 0) rfl) (i := 2) rfl (Nat.le_of_ble_eq_true rfl) rfl (fitw L2) rfl rfl rfl ?_
  intro hq7 wq8 Aq9
  refine Wp.run ok_law 3 52 #[.val (.int i0), .val (.int i1), .val (.int i2), .val (.int i3), .val (.int i4), .val (.int i5), .val (.int c0), .val (.int c1), .val (.int c2), .val (.int c3), .val (.ref h.size), .unset, .unset, .unset, .unset, .unset, .unset] [(.int c3), (.int (3 : Int32)), (.ref h.size)] rfl ?_
  refine Wp.aput ok_law Aq9 (List.mem_of_getElem? (i := 0) rfl) (i := 3) rfl (Nat.le_of_ble_eq_true rfl) rfl (fitw L3) rfl rfl rfl ?_
  intro hq10 wq11 Aq12
  have A4 : Ar Z hq10 h.size .char ([c0, c1, c2, c3].map Value.int) := Aq12
  refine Wp.new ok_law (G.1 _ (List.mem_of_getElem? (i := 6) rfl)) (G.1 _ (List.mem_of_getElem? (i := 7) rfl)) (G.1 _ (List.mem_of_getElem? (i := 8) rfl)) rfl (Nat.le_of_ble_eq_true rfl) (Nat.le_of_ble_eq_true rfl) ?_
  intro hn En Xn D_hn
  have F1_hn : Fld Z hn hq10.size "java/lang/String" "coder" "B" (.int 0) := D_hn (Or.inr (G.1 _ (List.mem_of_getElem? (i := 32) rfl))) (ty := .byte) (by decide)
  have F2_hn : Fld Z hn hq10.size "java/lang/String" "value" "[B" .null := D_hn (Or.inr (G.1 _ (List.mem_of_getElem? (i := 34) rfl))) (ty := .array .byte) (by decide)
  refine Wp.run ok_law 2 59 #[.val (.int i0), .val (.int i1), .val (.int i2), .val (.int i3), .val (.int i4), .val (.int i5), .val (.int c0), .val (.int c1), .val (.int c2), .val (.int c3), .val (.ref h.size), .unset, .unset, .unset, .unset, .unset, .unset] [(.ref h.size), (.ref hq10.size), (.ref hq10.size)] rfl ?_
  have hW : W16 [c0, c1, c2, c3] := fun x hx => by
    simp at hx; rcases hx with rfl | rfl | rfl | rfl
    · exact L0
    · exact L1
    · exact L2
    · exact L3
  refine Wp.callI ok_law (a := hq10.size) (argsL := [(.ref h.size)]) (rest := [(.ref hq10.size)]) (ct_sig G hW (by simp) (by simp) hn Xn F1_hn F2_hn (A4.ext En)) G.2.1 (G.1 _ (List.mem_of_getElem? (i := 9) rfl)) (G.1 _ (List.mem_of_getElem? (i := 10) rfl)) (G.1 _ (List.mem_of_getElem? (i := 8) rfl)) (G.1 _ (List.mem_of_getElem? (i := 11) rfl)) rfl rfl rfl rfl (by decide) pd_si1 rfl rfl (Nat.le_of_ble_eq_true rfl) (Nat.le_of_ble_eq_true rfl) (Nat.le_of_ble_eq_true rfl) (Nat.le_of_ble_eq_true rfl) (allS (List.mem_of_getElem? (i := 0) rfl) all0) ?_
  rintro _ hs ⟨rfl, Ks, Ss⟩ -
  obtain ⟨m1, q1, e1⟩ := mod_n i4 (d := 5) (by decide) (by decide)
  obtain ⟨m2, q2, e2⟩ := mod_n i5 (d := 5) (by decide) (by decide)
  refine Wp.run ok_law 2 66 #[.val (.int i0), .val (.int i1), .val (.int i2), .val (.int i3), .val (.int i4), .val (.int i5), .val (.int c0), .val (.int c1), .val (.int c2), .val (.int c3), .val (.ref h.size), .val (.ref hq10.size), .unset, .unset, .unset, .unset, .unset] [(.int i4)] rfl ?_
  refine Wp.ldcI ok_law (G.1 _ (List.mem_of_getElem? (i := 35) rfl)) rfl ?_
  refine Wp.run ok_law 2 70 #[.val (.int i0), .val (.int i1), .val (.int i2), .val (.int i3), .val (.int i4), .val (.int i5), .val (.int c0), .val (.int c1), .val (.int c2), .val (.int c3), .val (.ref h.size), .val (.ref hq10.size), .unset, .unset, .unset, .unset, .unset] [(.int (5 : Int32)), (.int (i4 &&& (2147483647 : Int32)))] rfl ?_
  refine Wp.irem ok_law rfl rfl (by decide) ?_
  refine Wp.at #[.val (.int i0), .val (.int i1), .val (.int i2), .val (.int i3), .val (.int i4), .val (.int i5), .val (.int c0), .val (.int c1), .val (.int c2), .val (.int c3), .val (.ref h.size), .val (.ref hq10.size), .unset, .unset, .unset, .unset, .unset] [(.int (Int32.ofNat m1))] ⟨rfl, (by rw [show (i4 &&& (2147483647 : Int32)) % (5 : Int32) = Int32.ofNat m1 from e1] <;> rfl)⟩ ?_
  refine Wp.run ok_law 2 75 #[.val (.int i0), .val (.int i1), .val (.int i2), .val (.int i3), .val (.int i4), .val (.int i5), .val (.int c0), .val (.int c1), .val (.int c2), .val (.int c3), .val (.ref h.size), .val (.ref hq10.size), .val (.int (Int32.ofNat m1)), .unset, .unset, .unset, .unset] [(.int i5)] rfl ?_
  refine Wp.ldcI ok_law (G.1 _ (List.mem_of_getElem? (i := 35) rfl)) rfl ?_
  refine Wp.run ok_law 2 79 #[.val (.int i0), .val (.int i1), .val (.int i2), .val (.int i3), .val (.int i4), .val (.int i5), .val (.int c0), .val (.int c1), .val (.int c2), .val (.int c3), .val (.ref h.size), .val (.ref hq10.size), .val (.int (Int32.ofNat m1)), .unset, .unset, .unset, .unset] [(.int (5 : Int32)), (.int (i5 &&& (2147483647 : Int32)))] rfl ?_
  refine Wp.irem ok_law rfl rfl (by decide) ?_
  refine Wp.at #[.val (.int i0), .val (.int i1), .val (.int i2), .val (.int i3), .val (.int i4), .val (.int i5), .val (.int c0), .val (.int c1), .val (.int c2), .val (.int c3), .val (.ref h.size), .val (.ref hq10.size), .val (.int (Int32.ofNat m1)), .unset, .unset, .unset, .unset] [(.int (Int32.ofNat m2))] ⟨rfl, (by rw [show (i5 &&& (2147483647 : Int32)) % (5 : Int32) = Int32.ofNat m2 from e2] <;> rfl)⟩ ?_
  refine Wp.run ok_law 3 86 #[.val (.int i0), .val (.int i1), .val (.int i2), .val (.int i3), .val (.int i4), .val (.int i5), .val (.int c0), .val (.int c1), .val (.int c2), .val (.int c3), .val (.ref h.size), .val (.ref hq10.size), .val (.int (Int32.ofNat m1)), .val (.int (Int32.ofNat m2)), .unset, .unset, .unset] [(.int (Int32.ofNat m2)), (.int (Int32.ofNat m1))] rfl ?_
  obtain ⟨s, e, hs4, he4, hse, emn, emx⟩ : ∃ s e : Nat, s ≤ 4 ∧ e ≤ 4 ∧ s ≤ e ∧ (if Int32.ofNat m2 < Int32.ofNat m1 then Int32.ofNat m2 else Int32.ofNat m1) = Int32.ofNat s ∧ (if Int32.ofNat m1 < Int32.ofNat m2 then Int32.ofNat m2 else Int32.ofNat m1) = Int32.ofNat e := by
    rcases Nat.lt_trichotomy m1 m2 with z | z | z
    · exact ⟨m1, m2, by omega, by omega, by omega, if_neg (fun y => absurd ((n_lt (by omega) (by omega)).mp y) (by omega)), if_pos ((n_lt (by omega) (by omega)).mpr z)⟩
    · subst z; exact ⟨m1, m1, by omega, by omega, by omega, if_neg Int32.lt_irrefl, if_neg Int32.lt_irrefl⟩
    · exact ⟨m2, m1, by omega, by omega, by omega, if_pos ((n_lt (by omega) (by omega)).mpr z), if_neg (fun y => absurd ((n_lt (by omega) (by omega)).mp y) (by omega))⟩
  refine Wp.callS ok_law (argsL := [(.int (Int32.ofNat m1)), (.int (Int32.ofNat m2))]) (rest := []) (ct_min G (x := Int32.ofNat m1) (y := Int32.ofNat m2) hs) G.2.1 (G.1 _ (List.mem_of_getElem? (i := 36) rfl)) (G.1 _ (List.mem_of_getElem? (i := 37) rfl)) (G.1 _ (List.mem_of_getElem? (i := 38) rfl)) (G.1 _ (List.mem_of_getElem? (i := 39) rfl)) rfl rfl (by decide) pd_min rfl rfl (Nat.le_of_ble_eq_true rfl) (Nat.le_of_ble_eq_true rfl) (Nat.le_of_ble_eq_true rfl) (Nat.le_of_ble_eq_true rfl) all0 ?_
  rintro _ _ ⟨rfl, rfl⟩ -
  refine Wp.at #[.val (.int i0), .val (.int i1), .val (.int i2), .val (.int i3), .val (.int i4), .val (.int i5), .val (.int c0), .val (.int c1), .val (.int c2), .val (.int c3), .val (.ref h.size), .val (.ref hq10.size), .val (.int (Int32.ofNat m1)), .val (.int (Int32.ofNat m2)), .unset, .unset, .unset] [(.int (Int32.ofNat s))] ⟨rfl, (by rw [emn] <;> rfl)⟩ ?_
  refine Wp.run ok_law 3 95 #[.val (.int i0), .val (.int i1), .val (.int i2), .val (.int i3), .val (.int i4), .val (.int i5), .val (.int c0), .val (.int c1), .val (.int c2), .val (.int c3), .val (.ref h.size), .val (.ref hq10.size), .val (.int (Int32.ofNat m1)), .val (.int (Int32.ofNat m2)), .val (.int (Int32.ofNat s)), .unset, .unset] [(.int (Int32.ofNat m2)), (.int (Int32.ofNat m1))] rfl ?_
  refine Wp.callS ok_law (argsL := [(.int (Int32.ofNat m1)), (.int (Int32.ofNat m2))]) (rest := []) (ct_max G (x := Int32.ofNat m1) (y := Int32.ofNat m2) hs) G.2.1 (G.1 _ (List.mem_of_getElem? (i := 40) rfl)) (G.1 _ (List.mem_of_getElem? (i := 41) rfl)) (G.1 _ (List.mem_of_getElem? (i := 38) rfl)) (G.1 _ (List.mem_of_getElem? (i := 42) rfl)) rfl rfl (by decide) pd_max rfl rfl (Nat.le_of_ble_eq_true rfl) (Nat.le_of_ble_eq_true rfl) (Nat.le_of_ble_eq_true rfl) (Nat.le_of_ble_eq_true rfl) all0 ?_
  rintro _ _ ⟨rfl, rfl⟩ -
  refine Wp.at #[.val (.int i0), .val (.int i1), .val (.int i2), .val (.int i3), .val (.int i4), .val (.int i5), .val (.int c0), .val (.int c1), .val (.int c2), .val (.int c3), .val (.ref h.size), .val (.ref hq10.size), .val (.int (Int32.ofNat m1)), .val (.int (Int32.ofNat m2)), .val (.int (Int32.ofNat s)), .unset, .unset] [(.int (Int32.ofNat e))] ⟨rfl, (by rw [emx] <;> rfl)⟩ ?_
  refine Wp.run ok_law 5 107 #[.val (.int i0), .val (.int i1), .val (.int i2), .val (.int i3), .val (.int i4), .val (.int i5), .val (.int c0), .val (.int c1), .val (.int c2), .val (.int c3), .val (.ref h.size), .val (.ref hq10.size), .val (.int (Int32.ofNat m1)), .val (.int (Int32.ofNat m2)), .val (.int (Int32.ofNat s)), .val (.int (Int32.ofNat e)), .unset] [(.int c0), (.int (Int32.ofNat e)), (.int (Int32.ofNat s)), (.int (0 : Int32))] rfl ?_
  have r157 : ∀ x : Int32, (x = 1 ∧ (∀ j c, s ≤ j → j < e → [c0, c1, c2, c3][j]? = some c → UP c)) ∨ (x = 0 ∧ ¬ (∀ j c, s ≤ j → j < e → [c0, c1, c2, c3][j]? = some c → UP c)) → Wp l Z EL1 mt_law room_1 hs [hq10.size, h.size] 4 56 157 #[.val (.int i0), .val (.int i1), .val (.int i2), .val (.int i3), .val (.int i4), .val (.int i5), .val (.int c0), .val (.int c1), .val (.int c2), .val (.int c3), .val (.ref h.size), .val (.ref hq10.size), .val (.int (Int32.ofNat m1)), .val (.int (Int32.ofNat m2)), .val (.int (Int32.ofNat s)), .val (.int (Int32.ofNat e)), .unset] [(.int x)] (fun v _ => v = some (.int 1)) := by
    intro x hx
    refine Wp.run ok_law 4 165 #[.val (.int i0), .val (.int i1), .val (.int i2), .val (.int i3), .val (.int i4), .val (.int i5), .val (.int c0), .val (.int c1), .val (.int c2), .val (.int c3), .val (.ref h.size), .val (.ref hq10.size), .val (.int (Int32.ofNat m1)), .val (.int (Int32.ofNat m2)), .val (.int (Int32.ofNat s)), .val (.int (Int32.ofNat e)), .val (.int x)] [(.int (Int32.ofNat e)), (.int (Int32.ofNat s)), (.ref hq10.size)] rfl ?_
    refine Wp.callS ok_law (argsL := [(.ref hq10.size), (.int (Int32.ofNat s)), (.int (Int32.ofNat e))]) (rest := []) (ct_unr G (cs := [c0, c1, c2, c3]) hse he4 (by simp) hs Ss) G.2.1 (G.1 _ (List.mem_of_getElem? (i := 49) rfl)) (G.1 _ (List.mem_of_getElem? (i := 50) rfl)) (G.1 _ (List.mem_of_getElem? (i := 51) rfl)) (G.1 _ (List.mem_of_getElem? (i := 52) rfl)) rfl rfl (by decide) pd_unr rfl rfl (Nat.le_of_ble_eq_true rfl) (Nat.le_of_ble_eq_true rfl) (Nat.le_of_ble_eq_true rfl) (Nat.le_of_ble_eq_true rfl) all0 ?_
    rintro _ _ ⟨r, rfl, rfl, hr⟩ -
    refine Wp.run ok_law 1 170 #[.val (.int i0), .val (.int i1), .val (.int i2), .val (.int i3), .val (.int i4), .val (.int i5), .val (.int c0), .val (.int c1), .val (.int c2), .val (.int c3), .val (.ref h.size), .val (.ref hq10.size), .val (.int (Int32.ofNat m1)), .val (.int (Int32.ofNat m2)), .val (.int (Int32.ofNat s)), .val (.int (Int32.ofNat e)), .val (.int x)] [(.int x), (.int r)] rfl ?_
    have exr : r = x := by
      rcases hx with ⟨rfl, y⟩ | ⟨rfl, y⟩ <;> rcases hr with ⟨rfl, z⟩ | ⟨rfl, z⟩
      · rfl
      · exact absurd y z
      · exact absurd z y
      · rfl
    refine Wp.icmpF ok_law rfl rfl (show r = x from exr) ?_
    refine Wp.run ok_law 2 178 #[.val (.int i0), .val (.int i1), .val (.int i2), .val (.int i3), .val (.int i4), .val (.int i5), .val (.int c0), .val (.int c1), .val (.int c2), .val (.int c3), .val (.ref h.size), .val (.ref hq10.size), .val (.int (Int32.ofNat m1)), .val (.int (Int32.ofNat m2)), .val (.int (Int32.ofNat s)), .val (.int (Int32.ofNat e)), .val (.int x)] [(.int (1 : Int32))] rfl ?_
    exact Wp.retI ok_law (t := .boolean) rfl (by decide) rfl rfl rfl rfl
  refine Wp.at #[.val (.int i0), .val (.int i1), .val (.int i2), .val (.int i3), .val (.int i4), .val (.int i5), .val (.int c0), .val (.int c1), .val (.int c2), .val (.int c3), .val (.ref h.size), .val (.ref hq10.size), .val (.int (Int32.ofNat m1)), .val (.int (Int32.ofNat m2)), .val (.int (Int32.ofNat s)), .val (.int (Int32.ofNat e)), .unset] [(.int c0), (.int (Int32.ofNat e)), (.int (Int32.ofNat s)), (.int (Int32.ofNat 0))] ⟨rfl, rfl⟩ ?_
  refine Wp.callS ok_law (argsL := [(.int (Int32.ofNat 0)), (.int (Int32.ofNat s)), (.int (Int32.ofNat e)), (.int c0)]) (rest := []) (ct_okk G (i := 0) (s := s) (e := e) (c := c0) (by decide) hs4 he4 hs) G.2.1 (G.1 _ (List.mem_of_getElem? (i := 43) rfl)) (G.1 _ (List.mem_of_getElem? (i := 44) rfl)) (G.1 _ (List.mem_of_getElem? (i := 2) rfl)) (G.1 _ (List.mem_of_getElem? (i := 45) rfl)) rfl rfl (by decide) pd_okk rfl rfl (Nat.le_of_ble_eq_true rfl) (Nat.le_of_ble_eq_true rfl) (Nat.le_of_ble_eq_true rfl) (Nat.le_of_ble_eq_true rfl) all0 ?_
  rintro _ _ ⟨r0, rfl, rfl, hr0⟩ -
  rcases hr0 with ⟨rfl, t0⟩ | ⟨rfl, ta, tb, tc⟩
  · refine Wp.ifF ok_law rfl rfl (show ¬ 1 = (0 : Int32) from by decide) ?_
    refine Wp.run ok_law 4 120 #[.val (.int i0), .val (.int i1), .val (.int i2), .val (.int i3), .val (.int i4), .val (.int i5), .val (.int c0), .val (.int c1), .val (.int c2), .val (.int c3), .val (.ref h.size), .val (.ref hq10.size), .val (.int (Int32.ofNat m1)), .val (.int (Int32.ofNat m2)), .val (.int (Int32.ofNat s)), .val (.int (Int32.ofNat e)), .unset] [(.int c1), (.int (Int32.ofNat e)), (.int (Int32.ofNat s)), (.int (1 : Int32))] rfl ?_
    refine Wp.at #[.val (.int i0), .val (.int i1), .val (.int i2), .val (.int i3), .val (.int i4), .val (.int i5), .val (.int c0), .val (.int c1), .val (.int c2), .val (.int c3), .val (.ref h.size), .val (.ref hq10.size), .val (.int (Int32.ofNat m1)), .val (.int (Int32.ofNat m2)), .val (.int (Int32.ofNat s)), .val (.int (Int32.ofNat e)), .unset] [(.int c1), (.int (Int32.ofNat e)), (.int (Int32.ofNat s)), (.int (Int32.ofNat 1))] ⟨rfl, rfl⟩ ?_
    refine Wp.callS ok_law (argsL := [(.int (Int32.ofNat 1)), (.int (Int32.ofNat s)), (.int (Int32.ofNat e)), (.int c1)]) (rest := []) (ct_okk G (i := 1) (s := s) (e := e) (c := c1) (by decide) hs4 he4 hs) G.2.1 (G.1 _ (List.mem_of_getElem? (i := 43) rfl)) (G.1 _ (List.mem_of_getElem? (i := 44) rfl)) (G.1 _ (List.mem_of_getElem? (i := 2) rfl)) (G.1 _ (List.mem_of_getElem? (i := 45) rfl)) rfl rfl (by decide) pd_okk rfl rfl (Nat.le_of_ble_eq_true rfl) (Nat.le_of_ble_eq_true rfl) (Nat.le_of_ble_eq_true rfl) (Nat.le_of_ble_eq_true rfl) all0 ?_
    rintro _ _ ⟨r1, rfl, rfl, hr1⟩ -
    rcases hr1 with ⟨rfl, t1⟩ | ⟨rfl, ta, tb, tc⟩
    · refine Wp.ifF ok_law rfl rfl (show ¬ 1 = (0 : Int32) from by decide) ?_
      refine Wp.run ok_law 4 133 #[.val (.int i0), .val (.int i1), .val (.int i2), .val (.int i3), .val (.int i4), .val (.int i5), .val (.int c0), .val (.int c1), .val (.int c2), .val (.int c3), .val (.ref h.size), .val (.ref hq10.size), .val (.int (Int32.ofNat m1)), .val (.int (Int32.ofNat m2)), .val (.int (Int32.ofNat s)), .val (.int (Int32.ofNat e)), .unset] [(.int c2), (.int (Int32.ofNat e)), (.int (Int32.ofNat s)), (.int (2 : Int32))] rfl ?_
      refine Wp.at #[.val (.int i0), .val (.int i1), .val (.int i2), .val (.int i3), .val (.int i4), .val (.int i5), .val (.int c0), .val (.int c1), .val (.int c2), .val (.int c3), .val (.ref h.size), .val (.ref hq10.size), .val (.int (Int32.ofNat m1)), .val (.int (Int32.ofNat m2)), .val (.int (Int32.ofNat s)), .val (.int (Int32.ofNat e)), .unset] [(.int c2), (.int (Int32.ofNat e)), (.int (Int32.ofNat s)), (.int (Int32.ofNat 2))] ⟨rfl, rfl⟩ ?_
      refine Wp.callS ok_law (argsL := [(.int (Int32.ofNat 2)), (.int (Int32.ofNat s)), (.int (Int32.ofNat e)), (.int c2)]) (rest := []) (ct_okk G (i := 2) (s := s) (e := e) (c := c2) (by decide) hs4 he4 hs) G.2.1 (G.1 _ (List.mem_of_getElem? (i := 43) rfl)) (G.1 _ (List.mem_of_getElem? (i := 44) rfl)) (G.1 _ (List.mem_of_getElem? (i := 2) rfl)) (G.1 _ (List.mem_of_getElem? (i := 45) rfl)) rfl rfl (by decide) pd_okk rfl rfl (Nat.le_of_ble_eq_true rfl) (Nat.le_of_ble_eq_true rfl) (Nat.le_of_ble_eq_true rfl) (Nat.le_of_ble_eq_true rfl) all0 ?_
      rintro _ _ ⟨r2, rfl, rfl, hr2⟩ -
      rcases hr2 with ⟨rfl, t2⟩ | ⟨rfl, ta, tb, tc⟩
      · refine Wp.ifF ok_law rfl rfl (show ¬ 1 = (0 : Int32) from by decide) ?_
        refine Wp.run ok_law 4 146 #[.val (.int i0), .val (.int i1), .val (.int i2), .val (.int i3), .val (.int i4), .val (.int i5), .val (.int c0), .val (.int c1), .val (.int c2), .val (.int c3), .val (.ref h.size), .val (.ref hq10.size), .val (.int (Int32.ofNat m1)), .val (.int (Int32.ofNat m2)), .val (.int (Int32.ofNat s)), .val (.int (Int32.ofNat e)), .unset] [(.int c3), (.int (Int32.ofNat e)), (.int (Int32.ofNat s)), (.int (3 : Int32))] rfl ?_
        refine Wp.at #[.val (.int i0), .val (.int i1), .val (.int i2), .val (.int i3), .val (.int i4), .val (.int i5), .val (.int c0), .val (.int c1), .val (.int c2), .val (.int c3), .val (.ref h.size), .val (.ref hq10.size), .val (.int (Int32.ofNat m1)), .val (.int (Int32.ofNat m2)), .val (.int (Int32.ofNat s)), .val (.int (Int32.ofNat e)), .unset] [(.int c3), (.int (Int32.ofNat e)), (.int (Int32.ofNat s)), (.int (Int32.ofNat 3))] ⟨rfl, rfl⟩ ?_
        refine Wp.callS ok_law (argsL := [(.int (Int32.ofNat 3)), (.int (Int32.ofNat s)), (.int (Int32.ofNat e)), (.int c3)]) (rest := []) (ct_okk G (i := 3) (s := s) (e := e) (c := c3) (by decide) hs4 he4 hs) G.2.1 (G.1 _ (List.mem_of_getElem? (i := 43) rfl)) (G.1 _ (List.mem_of_getElem? (i := 44) rfl)) (G.1 _ (List.mem_of_getElem? (i := 2) rfl)) (G.1 _ (List.mem_of_getElem? (i := 45) rfl)) rfl rfl (by decide) pd_okk rfl rfl (Nat.le_of_ble_eq_true rfl) (Nat.le_of_ble_eq_true rfl) (Nat.le_of_ble_eq_true rfl) (Nat.le_of_ble_eq_true rfl) all0 ?_
        rintro _ _ ⟨r3, rfl, rfl, hr3⟩ -
        rcases hr3 with ⟨rfl, t3⟩ | ⟨rfl, ta, tb, tc⟩
        · refine Wp.ifF ok_law rfl rfl (show ¬ 1 = (0 : Int32) from by decide) ?_
          refine Wp.run ok_law 2 157 #[.val (.int i0), .val (.int i1), .val (.int i2), .val (.int i3), .val (.int i4), .val (.int i5), .val (.int c0), .val (.int c1), .val (.int c2), .val (.int c3), .val (.ref h.size), .val (.ref hq10.size), .val (.int (Int32.ofNat m1)), .val (.int (Int32.ofNat m2)), .val (.int (Int32.ofNat s)), .val (.int (Int32.ofNat e)), .unset] [(.int (1 : Int32))] rfl ?_
          exact r157 _ (Or.inl ⟨rfl, fun j c h1 h2 h3 => by
            have hj4 : j < 4 := by omega
            obtain rfl | rfl | rfl | rfl : j = 0 ∨ j = 1 ∨ j = 2 ∨ j = 3 := by omega
            · cases Option.some.inj h3; exact t0 h1 h2
            · cases Option.some.inj h3; exact t1 h1 h2
            · cases Option.some.inj h3; exact t2 h1 h2
            · cases Option.some.inj h3; exact t3 h1 h2⟩)
        · refine Wp.ifT ok_law 156 rfl rfl (show 0 = (0 : Int32) from rfl) (by decide) (by decide) ?_
          refine Wp.run ok_law 1 157 #[.val (.int i0), .val (.int i1), .val (.int i2), .val (.int i3), .val (.int i4), .val (.int i5), .val (.int c0), .val (.int c1), .val (.int c2), .val (.int c3), .val (.ref h.size), .val (.ref hq10.size), .val (.int (Int32.ofNat m1)), .val (.int (Int32.ofNat m2)), .val (.int (Int32.ofNat s)), .val (.int (Int32.ofNat e)), .unset] [(.int (0 : Int32))] rfl ?_
          exact r157 _ (Or.inr ⟨rfl, fun z => tc (z 3 c3 ta tb rfl)⟩)
      · refine Wp.ifT ok_law 156 rfl rfl (show 0 = (0 : Int32) from rfl) (by decide) (by decide) ?_
        refine Wp.run ok_law 1 157 #[.val (.int i0), .val (.int i1), .val (.int i2), .val (.int i3), .val (.int i4), .val (.int i5), .val (.int c0), .val (.int c1), .val (.int c2), .val (.int c3), .val (.ref h.size), .val (.ref hq10.size), .val (.int (Int32.ofNat m1)), .val (.int (Int32.ofNat m2)), .val (.int (Int32.ofNat s)), .val (.int (Int32.ofNat e)), .unset] [(.int (0 : Int32))] rfl ?_
        exact r157 _ (Or.inr ⟨rfl, fun z => tc (z 2 c2 ta tb rfl)⟩)
    · refine Wp.ifT ok_law 156 rfl rfl (show 0 = (0 : Int32) from rfl) (by decide) (by decide) ?_
      refine Wp.run ok_law 1 157 #[.val (.int i0), .val (.int i1), .val (.int i2), .val (.int i3), .val (.int i4), .val (.int i5), .val (.int c0), .val (.int c1), .val (.int c2), .val (.int c3), .val (.ref h.size), .val (.ref hq10.size), .val (.int (Int32.ofNat m1)), .val (.int (Int32.ofNat m2)), .val (.int (Int32.ofNat s)), .val (.int (Int32.ofNat e)), .unset] [(.int (0 : Int32))] rfl ?_
      exact r157 _ (Or.inr ⟨rfl, fun z => tc (z 1 c1 ta tb rfl)⟩)
  · refine Wp.ifT ok_law 156 rfl rfl (show 0 = (0 : Int32) from rfl) (by decide) (by decide) ?_
    refine Wp.run ok_law 1 157 #[.val (.int i0), .val (.int i1), .val (.int i2), .val (.int i3), .val (.int i4), .val (.int i5), .val (.int c0), .val (.int c1), .val (.int c2), .val (.int c3), .val (.ref h.size), .val (.ref hq10.size), .val (.int (Int32.ofNat m1)), .val (.int (Int32.ofNat m2)), .val (.int (Int32.ofNat s)), .val (.int (Int32.ofNat e)), .unset] [(.int (0 : Int32))] rfl ?_
    exact r157 _ (Or.inr ⟨rfl, fun z => tc (z 0 c0 ta tb rfl)⟩)

set_option maxRecDepth 65536 in
set_option maxHeartbeats 4000000 in
theorem comes_1 {Post : Tables → Env → Array Value → State → Outcome → State → Prop} (hpost : ∀ tb e args s v u, (limb_1_1.after args s (.returned v) u = true ∧ limb_1_2.after args s (.returned v) u = true ∧ True) → FrameEnd s (.returned v) u (Jvm.fieldLocs frame_1_writes args s ++ Jvm.arrayLocs frame_1_arrays args s ++ Jvm.staticLocs frame_1_statics s) 16 128 → Post tb e args s (.returned v) u) :
    ArmFor flags0 classFile x code maxLocals ret World_1 tables_1 room_1 Calls_1 rest_1 Pre_1 Post := by
  intro l hfl _ _ p e ha hc hk s m args below hf hA hF happ hP
  obtain ⟨hcalls, hrest, hpre⟩ := hP
  obtain ⟨-, -, -, hnamed, -, -, -, hat⟩ := (Spec.applies_iff hf).mp happ
  obtain ⟨hg, hn⟩ := and_e (Cond.before_iff.mp (show (Jvm.Cond.and given_1 narrow_1).before args s = true from hpre))
  obtain ⟨hcount, g0⟩ := and_e hg
  obtain ⟨k0, g1⟩ := and_e g0
  obtain ⟨k1, g2⟩ := and_e g1
  obtain ⟨k2, g3⟩ := and_e g2
  obtain ⟨k3, g4⟩ := and_e g3
  obtain ⟨k4, g5⟩ := and_e g4
  have k5 := g5
  obtain ⟨w0, w1, w2, w3, w4, w5, rfl⟩ : ∃ w0 w1 w2 w3 w4 w5 : Value, args = #[w0, w1, w2, w3, w4, w5] := by
    have hs : args.size = 6 := by simpa [Cond.value, given_1] using hcount
    obtain ⟨L⟩ := args
    match L, hs with
    | [w0, w1, w2, w3, w4, w5], _ => exact ⟨w0, w1, w2, w3, w4, w5, rfl⟩
  have hw := fun d (hd : d ∈ tables_1) => atoms_spec (ws := Jvm.Cond.code x code maxLocals ret :: tables_1) hat d (List.mem_cons_of_mem _ hd)
  obtain ⟨hsets, hown0⟩ := atoms_of _ (rest_1_c_eq ▸ (show rest_1_c.before _ s = true from hrest))
  have hfit : Fit s := fun {y c} hc i hi => by
    obtain ⟨ha, rfl⟩ := Array.getElem?_eq_some_iff.mp hc
    have q := List.all_eq_true.mp ((Array.all_eq_true_iff_forall_mem.mp hF) _ (Array.getElem_mem ha)) i (List.mem_range.mpr hi)
    simpa [Array.getElem?_eq_getElem hi] using q
  obtain ⟨i0, e0⟩ := is_v k0
  obtain rfl : w0 = (.int i0) := Option.some.inj e0
  obtain ⟨i1, e1⟩ := is_v k1
  obtain rfl : w1 = (.int i1) := Option.some.inj e1
  obtain ⟨i2, e2⟩ := is_v k2
  obtain rfl : w2 = (.int i2) := Option.some.inj e2
  obtain ⟨i3, e3⟩ := is_v k3
  obtain rfl : w3 = (.int i3) := Option.some.inj e3
  obtain ⟨i4, e4⟩ := is_v k4
  obtain rfl : w4 = (.int i4) := Option.some.inj e4
  obtain ⟨i5, e5⟩ := is_v k5
  obtain rfl : w5 = (.int i5) := Option.some.inj e5
  have n5 := not_v (Cond.before_iff.mp (hsets _ (List.mem_of_getElem? (i := 2) rfl)))
  obtain ⟨vC, eC⟩ := is_v (Cond.before_iff.mp (hsets _ (List.mem_of_getElem? (i := 1) rfl)))
  have SC : Sta s s.heap "java/lang/String" "COMPACT_STRINGS" "Z" (.int vC) := Sta.start eC (Or.inl (hsets _ (List.mem_of_getElem? (i := 0) rfl)))
  obtain ⟨vF, eF, rF⟩ := isR_v (Cond.before_iff.mp (hsets _ (List.mem_of_getElem? (i := 8) rfl)))
  have SF : Sta s s.heap "jdk/internal/util/Preconditions" "SIOOBE_FORMATTER" "Ljava/util/function/BiFunction;" vF := Sta.start eF (Or.inl (hsets _ (List.mem_of_getElem? (i := 7) rfl)))
  have nC : ¬ (vC = (0 : Int32)) := gotF (Cond.eq_ints eC (Term.int_eval (0))) n5
  have hEL : EW s #[.int i0, .int i1, .int i2, .int i3, .int i4, .int i5] EL1 := EW.nil
  have hn0 := hn
  obtain ⟨n00, hn1⟩ := and_e hn0
  obtain ⟨n01, hn2⟩ := and_e hn1
  obtain ⟨n02, hn3⟩ := and_e hn2
  obtain ⟨n03, hn4⟩ := and_e hn3
  obtain ⟨n04, hn5⟩ := and_e hn4
  obtain ⟨n05, hn6⟩ := and_e hn5
  obtain ⟨n06, hn7⟩ := and_e hn6
  obtain ⟨n07, hn8⟩ := and_e hn7
  obtain ⟨n08, hn9⟩ := and_e hn8
  obtain ⟨n09, hn10⟩ := and_e hn9
  obtain ⟨n10, hn11⟩ := and_e hn10
  obtain ⟨n11, hn12⟩ := and_e hn11
  obtain ⟨n12, hn13⟩ := and_e hn12
  obtain ⟨n13, hn14⟩ := and_e hn13
  obtain ⟨n14, hn15⟩ := and_e hn14
  obtain ⟨n15, hn16⟩ := and_e hn15
  obtain ⟨n16, hn17⟩ := and_e hn16
  have n17 := hn17
  have hlen0 : (Jvm.Cond.eq (.length (Jvm.Term.static "countersign/canonical/Percent" "UNRESERVED" "[Z")) (.int (Int32.ofNat tbl.length))).before #[.int i0, .int i1, .int i2, .int i3, .int i4, .int i5] s = true := Cond.before_iff.mpr (by rw [tbl_len]; exact n01)
  obtain ⟨ud, uc, uev, uarr, -⟩ := Term.length_spec (Cond.eq_int hlen0 rfl)
  have uel : ∀ k : Nat, ∀ v : Int32, (Jvm.Cond.eq (.elem (Jvm.Term.static "countersign/canonical/Percent" "UNRESERVED" "[Z") (.index 0)) (.int v)).value #[.int i0, .int i1, .int i2, .int i3, .int i4, .int i5] s none s [k] = some true → (Jvm.Cond.eq (.elem (Jvm.Term.static "countersign/canonical/Percent" "UNRESERVED" "[Z") (.int (Int32.ofNat k))) (.int v)).before #[.int i0, .int i1, .int i2, .int i3, .int i4, .int i5] s = true := fun k v q => Cond.before_iff.mpr q
  have usz : uc.slots.size = 128 := (len_size uev uarr (Cond.eq_int hlen0 rfl) (by rw [tbl_len]; decide)).trans tbl_len
  have ule : ∀ (k m : Nat), k < 128 → m < 2 ^ 31 → ∀ x, x = Int32.ofNat m → (Jvm.Cond.le (.int x) (.index 0)).value #[.int i0, .int i1, .int i2, .int i3, .int i4, .int i5] s none s [k] = some (decide (m ≤ k)) := fun k m hk hm x hx => by
    rw [Cond.le_ints (Term.int_eval x) (show (Jvm.Term.index 0).eval #[.int i0, .int i1, .int i2, .int i3, .int i4, .int i5] s none [k] s = some (.int (Int32.ofNat k)) from rfl), hx]; congr 1; exact decide_eq_decide.mpr (n_le hm (by omega))
  have ult : ∀ (k m : Nat), k < 128 → m < 2 ^ 31 → ∀ x, x = Int32.ofNat m → (Jvm.Cond.lt (.index 0) (.int x)).value #[.int i0, .int i1, .int i2, .int i3, .int i4, .int i5] s none s [k] = some (decide (k < m)) := fun k m hk hm x hx => by
    rw [Cond.lt_ints (show (Jvm.Term.index 0).eval #[.int i0, .int i1, .int i2, .int i3, .int i4, .int i5] s none [k] s = some (.int (Int32.ofNat k)) from rfl) (Term.int_eval x), hx]; congr 1; exact decide_eq_decide.mpr (n_lt (by omega) hm)
  have uall : ∀ {c : Jvm.Cond}, (Jvm.Cond.all (Jvm.Term.static "countersign/canonical/Percent" "UNRESERVED" "[Z") c).value #[.int i0, .int i1, .int i2, .int i3, .int i4, .int i5] s none s [] = some true → ∀ k, k < 128 → c.value #[.int i0, .int i1, .int i2, .int i3, .int i4, .int i5] s none s [k] = some true := fun q k hk => Cond.all_elim uev uarr q k (by rw [usz]; exact hk)
  have hcd : ∀ k v, tbl[k]? = some v → (Jvm.Cond.eq (.elem (Jvm.Term.static "countersign/canonical/Percent" "UNRESERVED" "[Z") (.int (Int32.ofNat k))) (.int v)).before #[.int i0, .int i1, .int i2, .int i3, .int i4, .int i5] s = true := fun k v hv => by
    have hk : k < 128 := by have z := (List.getElem?_eq_some_iff.mp hv).1; rw [tbl_len] at z; exact z
    rw [tbl_at hk] at hv; cases Option.some.inj hv
    by_cases z2 : k < 45
    · rw [show uv k = 0 from if_neg (by omega)]
      exact uel k _ (own_or ((ule k 45 hk (by decide) _ rfl).trans (by rw [decide_eq_false (by omega)])) (uall n02 k hk))
    by_cases z3 : k = 45
    · subst z3; exact (show (Jvm.Cond.eq (.elem (Jvm.Term.static "countersign/canonical/Percent" "UNRESERVED" "[Z") (.int (Int32.ofNat 45))) (.int (uv 45))).before #[.int i0, .int i1, .int i2, .int i3, .int i4, .int i5] s = true from Cond.before_iff.mpr n03)
    by_cases z4 : k = 46
    · subst z4; exact (show (Jvm.Cond.eq (.elem (Jvm.Term.static "countersign/canonical/Percent" "UNRESERVED" "[Z") (.int (Int32.ofNat 46))) (.int (uv 46))).before #[.int i0, .int i1, .int i2, .int i3, .int i4, .int i5] s = true from Cond.before_iff.mpr n04)
    by_cases z5 : k = 47
    · subst z5; exact (show (Jvm.Cond.eq (.elem (Jvm.Term.static "countersign/canonical/Percent" "UNRESERVED" "[Z") (.int (Int32.ofNat 47))) (.int (uv 47))).before #[.int i0, .int i1, .int i2, .int i3, .int i4, .int i5] s = true from Cond.before_iff.mpr n05)
    by_cases z6 : k < 58
    · rw [show uv k = 1 from if_pos (by omega)]
      exact uel k _ (own_or ((ule k 58 hk (by decide) _ rfl).trans (by rw [decide_eq_false (by omega)])) (own_or ((ult k 48 hk (by decide) _ rfl).trans (by rw [decide_eq_false (by omega)])) (uall n06 k hk)))
    by_cases z7 : k < 65
    · rw [show uv k = 0 from if_neg (by omega)]
      exact uel k _ (own_or ((ule k 65 hk (by decide) _ rfl).trans (by rw [decide_eq_false (by omega)])) (own_or ((ult k 58 hk (by decide) _ rfl).trans (by rw [decide_eq_false (by omega)])) (uall n07 k hk)))
    by_cases z8 : k < 91
    · rw [show uv k = 1 from if_pos (by omega)]
      exact uel k _ (own_or ((ule k 91 hk (by decide) _ rfl).trans (by rw [decide_eq_false (by omega)])) (own_or ((ult k 65 hk (by decide) _ rfl).trans (by rw [decide_eq_false (by omega)])) (uall n08 k hk)))
    by_cases z9 : k < 95
    · rw [show uv k = 0 from if_neg (by omega)]
      exact uel k _ (own_or ((ule k 95 hk (by decide) _ rfl).trans (by rw [decide_eq_false (by omega)])) (own_or ((ult k 91 hk (by decide) _ rfl).trans (by rw [decide_eq_false (by omega)])) (uall n09 k hk)))
    by_cases z10 : k = 95
    · subst z10; exact (show (Jvm.Cond.eq (.elem (Jvm.Term.static "countersign/canonical/Percent" "UNRESERVED" "[Z") (.int (Int32.ofNat 95))) (.int (uv 95))).before #[.int i0, .int i1, .int i2, .int i3, .int i4, .int i5] s = true from Cond.before_iff.mpr n10)
    by_cases z11 : k = 96
    · subst z11; exact (show (Jvm.Cond.eq (.elem (Jvm.Term.static "countersign/canonical/Percent" "UNRESERVED" "[Z") (.int (Int32.ofNat 96))) (.int (uv 96))).before #[.int i0, .int i1, .int i2, .int i3, .int i4, .int i5] s = true from Cond.before_iff.mpr n11)
    by_cases z12 : k < 123
    · rw [show uv k = 1 from if_pos (by omega)]
      exact uel k _ (own_or ((ule k 123 hk (by decide) _ rfl).trans (by rw [decide_eq_false (by omega)])) (own_or ((ult k 97 hk (by decide) _ rfl).trans (by rw [decide_eq_false (by omega)])) (uall n12 k hk)))
    by_cases z13 : k = 123
    · subst z13; exact (show (Jvm.Cond.eq (.elem (Jvm.Term.static "countersign/canonical/Percent" "UNRESERVED" "[Z") (.int (Int32.ofNat 123))) (.int (uv 123))).before #[.int i0, .int i1, .int i2, .int i3, .int i4, .int i5] s = true from Cond.before_iff.mpr n13)
    by_cases z14 : k = 124
    · subst z14; exact (show (Jvm.Cond.eq (.elem (Jvm.Term.static "countersign/canonical/Percent" "UNRESERVED" "[Z") (.int (Int32.ofNat 124))) (.int (uv 124))).before #[.int i0, .int i1, .int i2, .int i3, .int i4, .int i5] s = true from Cond.before_iff.mpr n14)
    by_cases z15 : k = 125
    · subst z15; exact (show (Jvm.Cond.eq (.elem (Jvm.Term.static "countersign/canonical/Percent" "UNRESERVED" "[Z") (.int (Int32.ofNat 125))) (.int (uv 125))).before #[.int i0, .int i1, .int i2, .int i3, .int i4, .int i5] s = true from Cond.before_iff.mpr n15)
    by_cases z16 : k = 126
    · subst z16; exact (show (Jvm.Cond.eq (.elem (Jvm.Term.static "countersign/canonical/Percent" "UNRESERVED" "[Z") (.int (Int32.ofNat 126))) (.int (uv 126))).before #[.int i0, .int i1, .int i2, .int i3, .int i4, .int i5] s = true from Cond.before_iff.mpr n16)
    by_cases z17 : k = 127
    · subst z17; exact (show (Jvm.Cond.eq (.elem (Jvm.Term.static "countersign/canonical/Percent" "UNRESERVED" "[Z") (.int (Int32.ofNat 127))) (.int (uv 127))).before #[.int i0, .int i1, .int i2, .int i3, .int i4, .int i5] s = true from Cond.before_iff.mpr n17)
    omega
  obtain ⟨ua, evU, rU⟩ := ar_start (vs := tbl) (Cond.before_iff.mpr n00) hlen0 (by rw [tbl_len]; decide) hcd (fun v hv => by obtain ⟨k, -, rfl⟩ := List.mem_map.mp hv; unfold uv; split <;> rfl)
  have SU : Sta s s.heap "countersign/canonical/Percent" "UNRESERVED" "[Z" (.ref ua) := Sta.start evU (Or.inr ⟨(hw _ (List.mem_of_getElem? (i := 51) rfl)), (hw _ (List.mem_of_getElem? (i := 79) rfl))⟩)
  have SA : Sta s s.heap "java/lang/StringUTF16" "$assertionsDisabled" "Z" (.int 1) := Sta.start (Cond.eq_int (hsets _ (List.mem_of_getElem? (i := 12) rfl)) rfl) (Or.inl (hsets _ (List.mem_of_getElem? (i := 11) rfl)))
  have SH : Sta s s.heap "java/lang/StringUTF16" "HI_BYTE_SHIFT" "I" (.int 0) := Sta.start (Cond.eq_int (hsets _ (List.mem_of_getElem? (i := 15) rfl)) rfl) (Or.inl (hsets _ (List.mem_of_getElem? (i := 14) rfl)))
  have SL : Sta s s.heap "java/lang/StringUTF16" "LO_BYTE_SHIFT" "I" (.int 8) := Sta.start (Cond.eq_int (hsets _ (List.mem_of_getElem? (i := 18) rfl)) rfl) (Or.inl (hsets _ (List.mem_of_getElem? (i := 17) rfl)))
  have G : Gd s #[.int i0, .int i1, .int i2, .int i3, .int i4, .int i5] := ⟨hw, hEL, ⟨vC, SC, nC⟩, ⟨vF, SF, rF⟩, ⟨SA, SH, SL⟩, ua, SU, rU⟩
  have hCH : CHv s EL1 s.vm s.heap := fun _ q => nomatch q
  obtain ⟨n, o, h1, h2, h3, _, L, Wo, rfl, rfl, -, N, -, -, hWH, hq⟩ := ct_law G i0 i1 i2 i3 i4 i5 s.heap p e ha hc hk s m _ below hf ((Spec.applies_iff_loose hf).mp happ).1 ⟨rfl, State.Warmed39.refl s, rfl, hCH, Own.nil, ext_refl _⟩ trivial
  refine ⟨n, _, h1, h2, h3, hpost _ _ _ _ _ _ ⟨Cond.after_iff.mpr rfl, Cond.after_iff.mpr (eq_i res_at (Term.int_eval (1)) rfl), trivial⟩ ⟨hq.1, hWH rfl, (hq.2.2.2.sift fun y hy => Or.inr (N y hy)).mono (by decide) (by decide)⟩⟩
theorem main_1_1 : Claimed_1_1 := comes_1 fun _ _ _ _ _ _ h hF => ⟨h.1, hF⟩
theorem main_1_2 : Claimed_1_2 := comes_1 fun _ _ _ _ _ _ h hF => ⟨h.2.1, hF⟩
end Jvm.Pilot.@@N@@
namespace Jvm.Pilot.@@N@@
open Jvm Jvm.ClassFile Sem Op Lib Jvm.Free Jvm.Stand Jvm.Pilot.@@N@@.Jvm.D
/-! MADE BY PROGRAM (witnessworld.py) out of the Statement's table words and the real class files: 23 classes; the members and pool entries that the words name. The judged class is class 1, her method 4. -/
namespace start1
open Jvm.ClassFile
def u (s : String) : CpInfo := .utf8 (stringToUtf16 s)
/-- a pool by its gaps: so many unusable entries, then the entry; so many at the end -/
def gap : Nat → List CpInfo → List CpInfo
  | 0, r => r
  | n + 1, r => .unusable :: gap n r
def poolList (es : List (Nat × CpInfo)) (last : Nat) : List CpInfo := es.foldr (fun e r => gap e.1 (e.2 :: r)) (gap last [])
def pool (es : List (Nat × CpInfo)) (last : Nat) : Array CpInfo := ⟨poolList es last⟩
def fileOf (pool : Array CpInfo) (this : Nat) (attrs : Array Attribute := #[]) (ms : Array MethodInfo := #[]) (fl : Nat := 33) (sup : Nat := 0) (ifs : Array Nat := #[]) (fds : Array FieldInfo := #[]) : ClassFile where
  minorVersion := 0
  majorVersion := 65
  constantPool := pool
  accessFlags := fl
  thisClass := this
  superClass := sup
  interfaces := ifs
  fields := fds
  methods := ms
  attributes := attrs
def plain (name : String) (sup : Option ClassId) : Class where
  name := name
  kind := .ordinary
  loader := none
  accessFlags := 33
  super := sup
  interfaces := #[]
  cf := none
  fields := #[]
  methods := #[]
  instanceTypes := #[]
  staticTypes := #[]
  resolved := #[]
  callSites := []
  init := .initialized
  statics := none
  mirror := none

def pool0 : Array CpInfo := pool [(5, u "<init>"), (0, u "()V"), (1, .class_ 10), (1, u "java/lang/Object")] 113

def k0c0 : Code := { maxStack := 0, maxLocals := 1, code := object_method_1_code, exceptionTable := #[], attributes := #[] }
def k0m0 : Method := { name := "<init>", desc := "()V", sig := { parameters := [], returnType := none }, accessFlags := 1, code := some k0c0 }
/-- java/lang/Object -/
def k0 : Class := { plain "java/lang/Object" none with
  accessFlags := 33
  interfaces := #[]
  cf := some (fileOf pool0 8 #[] #[{ accessFlags := 1, nameIndex := 5, descriptorIndex := 6, attributes := #[] }] 33 0 #[] #[])
  fields := #[]
  methods := #[k0m0]
  instanceTypes := #[]
  staticTypes := #[]
  resolved := Array.replicate 124 none
  statics := none }

def pool1 : Array CpInfo := pool [(2, .class_ 4), (1, u "java/lang/Object"), (0, u "<init>"), (0, u "()V"), (0, .integer 65536), (0, .integer 65535), (0, .methodref 10 11), (0, .class_ 12), (0, .nameAndType 13 14), (0, u "countersign/canonical/PercentIsUnreservedPinLaw"), (0, u "isU"), (0, u "(C)Z"), (0, .methodref 10 16), (0, .nameAndType 17 18), (0, u "draw"), (0, u "(I)C"), (0, .class_ 20), (0, u "java/lang/String"), (0, .methodref 19 22), (0, .nameAndType 5 23), (0, u "([C)V"), (0, .integer 2147483647), (0, .methodref 26 27), (0, .class_ 28), (0, .nameAndType 29 30), (0, u "java/lang/Math"), (0, u "min"), (0, u "(II)I"), (0, .methodref 26 32), (0, .nameAndType 33 30), (0, u "max"), (0, .methodref 10 35), (0, .nameAndType 36 37), (0, u "ok"), (0, u "(IIIC)Z"), (0, .methodref 39 40), (0, .class_ 41), (0, .nameAndType 42 43), (0, u "countersign/canonical/Percent"), (0, u "isUnreserved"), (0, u "(Ljava/lang/String;II)Z"), (3, u "law"), (0, u "(IIIIII)Z")] 4

def k1m0 : Method := { name := "<init>", desc := "()V", sig := { parameters := [], returnType := none }, accessFlags := 2, code := none }
def k1c1 : Code := { maxStack := 2, maxLocals := 1, code := method_2_code, exceptionTable := #[], attributes := #[] }
def k1m1 : Method := { name := "draw", desc := "(I)C", sig := { parameters := [.int], returnType := some .char }, accessFlags := 10, code := some k1c1 }
def k1c2 : Code := { maxStack := 2, maxLocals := 1, code := method_3_code, exceptionTable := #[], attributes := #[] }
def k1m2 : Method := { name := "isU", desc := "(C)Z", sig := { parameters := [.char], returnType := some .boolean }, accessFlags := 10, code := some k1c2 }
def k1c3 : Code := { maxStack := 2, maxLocals := 4, code := method_4_code, exceptionTable := #[], attributes := #[] }
def k1m3 : Method := { name := "ok", desc := "(IIIC)Z", sig := { parameters := [.int, .int, .int, .char], returnType := some .boolean }, accessFlags := 10, code := some k1c3 }
def k1c4 : Code := { maxStack := 4, maxLocals := 17, code := code, exceptionTable := #[], attributes := #[] }
def k1m4 : Method := { name := "law", desc := "(IIIIII)Z", sig := { parameters := [.int, .int, .int, .int, .int, .int], returnType := some .boolean }, accessFlags := 9, code := some k1c4 }
/-- countersign/canonical/PercentIsUnreservedPinLaw -/
def k1 : Class := { plain "countersign/canonical/PercentIsUnreservedPinLaw" (some 0) with
  accessFlags := 49
  interfaces := #[]
  cf := some (fileOf pool1 10 #[] #[{ accessFlags := 2, nameIndex := 5, descriptorIndex := 6, attributes := #[] }, { accessFlags := 10, nameIndex := 17, descriptorIndex := 18, attributes := #[] }, { accessFlags := 10, nameIndex := 13, descriptorIndex := 14, attributes := #[] }, { accessFlags := 10, nameIndex := 36, descriptorIndex := 37, attributes := #[] }, { accessFlags := 9, nameIndex := 47, descriptorIndex := 48, attributes := #[] }] 49 2 #[] #[])
  fields := #[]
  methods := #[k1m0, k1m1, k1m2, k1m3, k1m4]
  instanceTypes := #[]
  staticTypes := #[]
  resolved := Array.replicate 53 none
  statics := none }

def pool2 : Array CpInfo := pool [(1, .class_ 2), (0, u "java/io/Serializable"), (0, .class_ 4), (0, u "java/lang/Object")] 2

/-- java/io/Serializable -/
def k2 : Class := { plain "java/io/Serializable" (some 0) with
  accessFlags := 1537
  interfaces := #[]
  cf := some (fileOf pool2 1 #[] #[] 1537 3 #[] #[])
  fields := #[]
  methods := #[]
  instanceTypes := #[]
  staticTypes := #[]
  resolved := Array.replicate 7 none
  statics := none }

def pool3 : Array CpInfo := pool [(1, .class_ 2), (0, u "java/lang/Comparable"), (0, .class_ 4), (0, u "java/lang/Object")] 7

/-- java/lang/Comparable -/
def k3 : Class := { plain "java/lang/Comparable" (some 0) with
  accessFlags := 1537
  interfaces := #[]
  cf := some (fileOf pool3 1 #[] #[] 1537 3 #[] #[])
  fields := #[]
  methods := #[]
  instanceTypes := #[]
  staticTypes := #[]
  resolved := Array.replicate 12 none
  statics := none }

def pool4 : Array CpInfo := pool [(2, .class_ 4), (1, u "java/lang/CharSequence"), (42, .class_ 48), (0, u "java/lang/CharSequence$1CodePointIterator"), (10, .class_ 60), (0, u "java/lang/CharSequence$1CharIterator"), (5, .class_ 67), (0, u "java/lang/Object")] 63

/-- java/lang/CharSequence -/
def k4 : Class := { plain "java/lang/CharSequence" (some 0) with
  accessFlags := 1537
  interfaces := #[]
  cf := some (fileOf pool4 2 #[.nestMembers #[47, 59]] #[] 1537 66 #[] #[])
  fields := #[]
  methods := #[]
  instanceTypes := #[]
  staticTypes := #[]
  resolved := Array.replicate 131 none
  statics := none }

def pool5 : Array CpInfo := pool [(1, .class_ 2), (0, u "java/lang/constant/Constable"), (0, .class_ 4), (0, u "java/lang/Object")] 6

/-- java/lang/constant/Constable -/
def k5 : Class := { plain "java/lang/constant/Constable" (some 0) with
  accessFlags := 1537
  interfaces := #[]
  cf := some (fileOf pool5 1 #[] #[] 1537 3 #[] #[])
  fields := #[]
  methods := #[]
  instanceTypes := #[]
  staticTypes := #[]
  resolved := Array.replicate 11 none
  statics := none }

def pool6 : Array CpInfo := pool [(1, .class_ 2), (0, u "java/lang/constant/ConstantDesc"), (0, .class_ 4), (0, u "java/lang/Object")] 32

/-- java/lang/constant/ConstantDesc -/
def k6 : Class := { plain "java/lang/constant/ConstantDesc" (some 0) with
  accessFlags := 1537
  interfaces := #[]
  cf := some (fileOf pool6 1 #[] #[] 1537 3 #[] #[])
  fields := #[]
  methods := #[]
  instanceTypes := #[]
  staticTypes := #[]
  resolved := Array.replicate 37 none
  statics := none }

def pool7 : Array CpInfo := pool [(1, .methodref 2 3), (0, .class_ 4), (0, .nameAndType 5 6), (0, u "java/lang/Object"), (0, u "<init>"), (0, u "()V"), (2, .fieldref 10 11), (0, .class_ 12), (0, .nameAndType 13 14), (0, u "java/lang/String"), (0, u "value"), (0, u "[B"), (0, .fieldref 10 16), (0, .nameAndType 17 18), (0, u "coder"), (0, u "B"), (2, u "hash"), (0, u "I"), (2, u "hashIsZero"), (0, u "Z"), (0, .methodref 10 28), (0, .nameAndType 5 29), (0, u "([CIILjava/lang/Void;)V"), (8, .fieldref 10 39), (0, .nameAndType 40 26), (0, u "COMPACT_STRINGS"), (1, .class_ 44), (1, u "java/lang/StringUTF16"), (0, u "compress"), (1, .methodref 42 48), (0, .nameAndType 49 50), (0, u "coderFromArrayLen"), (0, u "([BI)B"), (56, .class_ 109), (1, u "java/lang/StringLatin1"), (32, u "()Z"), (34, .methodref 42 178), (0, .nameAndType 45 179), (0, u "([CII)[B"), (183, u "([BI)C"), (27, u "(II)V"), (35, u "(I)C"), (64, .methodref 10 493), (0, .nameAndType 494 142), (0, u "isLatin1"), (0, .methodref 107 496), (0, .nameAndType 497 363), (0, u "charAt"), (0, .methodref 42 496), (2, u "checkIndex"), (73, .class_ 576), (0, u "java/lang/CharSequence"), (22, u "CASE_INSENSITIVE_ORDER"), (0, u "Ljava/util/Comparator;"), (409, u "([C)V"), (42, .fieldref 1054 1055), (0, .class_ 1056), (0, .nameAndType 1057 1058), (0, u "jdk/internal/util/Preconditions"), (0, u "SIOOBE_FORMATTER"), (0, u "Ljava/util/function/BiFunction;"), (0, .methodref 1054 1060), (0, .nameAndType 501 1061), (0, u "(IILjava/util/function/BiFunction;)I"), (39, u "serialPersistentFields"), (0, u "[Ljava/io/ObjectStreamField;"), (0, .class_ 1104), (0, u "java/lang/String$CaseInsensitiveComparator"), (1, .class_ 1107), (0, u "java/io/Serializable"), (0, .class_ 1109), (0, u "java/lang/Comparable"), (0, .class_ 1111), (0, u "java/lang/constant/Constable"), (0, .class_ 1113), (0, u "java/lang/constant/ConstantDesc"), (2, u "serialVersionUID"), (0, u "J"), (3, u "REPL"), (0, u "C"), (2, u "LATIN1"), (1, u "UTF16")] 323

def k7m0 : Method := { name := "<init>", desc := "()V", sig := { parameters := [], returnType := none }, accessFlags := 1, code := none }
def k7c1 : Code := { maxStack := 5, maxLocals := 2, code := jdk_42_method_3_code, exceptionTable := #[], attributes := #[] }
def k7m1 : Method := { name := "<init>", desc := "([C)V", sig := { parameters := [(.array .char)], returnType := none }, accessFlags := 1, code := some k7c1 }
def k7c2 : Code := { maxStack := 2, maxLocals := 2, code := jdk_42_method_56_code, exceptionTable := #[], attributes := #[] }
def k7m2 : Method := { name := "charAt", desc := "(I)C", sig := { parameters := [.int], returnType := some .char }, accessFlags := 1, code := some k7c2 }
def k7c3 : Code := { maxStack := 4, maxLocals := 6, code := jdk_42_method_149_code, exceptionTable := #[], attributes := #[] }
def k7m3 : Method := { name := "<init>", desc := "([CIILjava/lang/Void;)V", sig := { parameters := [(.array .char), .int, .int, (.object "java/lang/Void")], returnType := none }, accessFlags := 2, code := some k7c3 }
def k7c4 : Code := { maxStack := 1, maxLocals := 1, code := jdk_42_method_154_code, exceptionTable := #[], attributes := #[] }
def k7m4 : Method := { name := "isLatin1", desc := "()Z", sig := { parameters := [], returnType := some .boolean }, accessFlags := 0, code := some k7c4 }
def k7c5 : Code := { maxStack := 3, maxLocals := 2, code := jdk_42_method_155_code, exceptionTable := #[], attributes := #[] }
def k7m5 : Method := { name := "checkIndex", desc := "(II)V", sig := { parameters := [.int, .int], returnType := none }, accessFlags := 8, code := some k7c5 }
/-- java/lang/String -/
def k7 : Class := { plain "java/lang/String" (some 0) with
  accessFlags := 49
  interfaces := #[2, 3, 4, 5, 6]
  cf := some (fileOf pool7 10 #[.nestMembers #[1103]] #[{ accessFlags := 1, nameIndex := 5, descriptorIndex := 6, attributes := #[] }, { accessFlags := 1, nameIndex := 5, descriptorIndex := 1010, attributes := #[] }, { accessFlags := 1, nameIndex := 497, descriptorIndex := 427, attributes := #[] }, { accessFlags := 2, nameIndex := 5, descriptorIndex := 29, attributes := #[] }, { accessFlags := 0, nameIndex := 494, descriptorIndex := 142, attributes := #[] }, { accessFlags := 8, nameIndex := 501, descriptorIndex := 391, attributes := #[] }] 49 2 #[1106, 1108, 575, 1110, 1112] #[{ accessFlags := 18, nameIndex := 13, descriptorIndex := 14, attributes := #[] }, { accessFlags := 18, nameIndex := 17, descriptorIndex := 18, attributes := #[] }, { accessFlags := 2, nameIndex := 21, descriptorIndex := 22, attributes := #[] }, { accessFlags := 2, nameIndex := 25, descriptorIndex := 26, attributes := #[] }, { accessFlags := 26, nameIndex := 1116, descriptorIndex := 1117, attributes := #[] }, { accessFlags := 24, nameIndex := 40, descriptorIndex := 26, attributes := #[] }, { accessFlags := 26, nameIndex := 1101, descriptorIndex := 1102, attributes := #[] }, { accessFlags := 26, nameIndex := 1121, descriptorIndex := 1122, attributes := #[] }, { accessFlags := 25, nameIndex := 599, descriptorIndex := 600, attributes := #[] }, { accessFlags := 24, nameIndex := 1125, descriptorIndex := 18, attributes := #[] }, { accessFlags := 24, nameIndex := 1127, descriptorIndex := 18, attributes := #[] }])
  fields := #[{ name := "value", type := (.array .byte), accessFlags := 18, slot := 0, constantValue := 0 }, { name := "coder", type := .byte, accessFlags := 18, slot := 1, constantValue := 0 }, { name := "hash", type := .int, accessFlags := 2, slot := 2, constantValue := 0 }, { name := "hashIsZero", type := .boolean, accessFlags := 2, slot := 3, constantValue := 0 }, { name := "serialVersionUID", type := .long, accessFlags := 26, slot := 0, constantValue := 0 }, { name := "COMPACT_STRINGS", type := .boolean, accessFlags := 24, slot := 1, constantValue := 0 }, { name := "serialPersistentFields", type := (.array (.object "java/io/ObjectStreamField")), accessFlags := 26, slot := 2, constantValue := 0 }, { name := "REPL", type := .char, accessFlags := 26, slot := 3, constantValue := 0 }, { name := "CASE_INSENSITIVE_ORDER", type := (.object "java/util/Comparator"), accessFlags := 25, slot := 4, constantValue := 0 }, { name := "LATIN1", type := .byte, accessFlags := 24, slot := 5, constantValue := 0 }, { name := "UTF16", type := .byte, accessFlags := 24, slot := 6, constantValue := 0 }]
  methods := #[k7m0, k7m1, k7m2, k7m3, k7m4, k7m5]
  instanceTypes := #[(.array .byte), .byte, .int, .boolean]
  staticTypes := #[.long, .boolean, (.array (.object "java/io/ObjectStreamField")), .char, (.object "java/util/Comparator"), .byte, .byte]
  resolved := Array.replicate 1451 none
  statics := some 0 }

def pool8 : Array CpInfo := pool [(3, .class_ 4), (0, u "java/lang/String"), (1, .class_ 8), (1, u "java/lang/Object"), (0, u "<init>"), (0, u "()V"), (0, .methodref 12 13), (0, .class_ 14), (0, .nameAndType 15 16), (0, u "java/lang/StringUTF16"), (0, u "newBytesLength"), (0, u "(I)I"), (3, .integer 1073741823), (23, .fieldref 12 45), (0, .nameAndType 46 47), (0, u "$assertionsDisabled"), (0, u "Z"), (0, .methodref 12 49), (0, .nameAndType 50 51), (0, u "length"), (0, u "([B)I"), (7, .fieldref 12 60), (0, .nameAndType 61 62), (0, u "HI_BYTE_SHIFT"), (0, u "I"), (0, .fieldref 12 64), (0, .nameAndType 65 62), (0, u "LO_BYTE_SHIFT"), (1, .methodref 12 68), (0, .nameAndType 69 70), (0, u "checkIndex"), (0, u "(I[B)V"), (0, .methodref 12 72), (0, .nameAndType 73 74), (0, u "getChar"), (0, u "([BI)C"), (32, .methodref 12 108), (0, .nameAndType 109 110), (0, u "newBytesFor"), (0, u "(I)[B"), (0, .methodref 12 112), (0, .nameAndType 113 114), (0, u "putChar"), (0, u "([BII)V"), (0, .methodref 12 116), (0, .nameAndType 117 118), (0, u "compress"), (0, u "([CI[BII)I"), (0, .methodref 12 120), (0, .nameAndType 121 122), (0, u "toBytes"), (0, u "([CII)[B"), (138, u "coderFromArrayLen"), (0, u "([BI)B"), (106, .class_ 371), (1, u "java/lang/StringUTF16$LinesSpliterator"), (20, u "charAt"), (21, .methodref 3 415), (0, .nameAndType 69 416), (0, u "(II)V"), (13, u "MAX_LENGTH"), (196, .class_ 628), (0, u "java/lang/StringUTF16$CodePointsSpliterator"), (0, .class_ 630), (0, u "java/lang/StringUTF16$CharsSpliterator")] 4

def k8m0 : Method := { name := "<init>", desc := "()V", sig := { parameters := [], returnType := none }, accessFlags := 0, code := none }
def k8c1 : Code := { maxStack := 1, maxLocals := 1, code := jdk_52_method_2_code, exceptionTable := #[], attributes := #[] }
def k8m1 : Method := { name := "newBytesFor", desc := "(I)[B", sig := { parameters := [.int], returnType := some (.array .byte) }, accessFlags := 9, code := some k8c1 }
def k8c2 : Code := { maxStack := 4, maxLocals := 1, code := jdk_52_method_3_code, exceptionTable := #[], attributes := #[] }
def k8m2 : Method := { name := "newBytesLength", desc := "(I)I", sig := { parameters := [.int], returnType := some .int }, accessFlags := 9, code := some k8c2 }
def k8c3 : Code := { maxStack := 4, maxLocals := 3, code := jdk_52_method_4_code, exceptionTable := #[], attributes := #[] }
def k8m3 : Method := { name := "putChar", desc := "([BII)V", sig := { parameters := [(.array .byte), .int, .int], returnType := none }, accessFlags := 8, code := some k8c3 }
def k8c4 : Code := { maxStack := 3, maxLocals := 2, code := jdk_52_method_5_code, exceptionTable := #[], attributes := #[] }
def k8m4 : Method := { name := "getChar", desc := "([BI)C", sig := { parameters := [(.array .byte), .int], returnType := some .char }, accessFlags := 8, code := some k8c4 }
def k8c5 : Code := { maxStack := 2, maxLocals := 1, code := jdk_52_method_6_code, exceptionTable := #[], attributes := #[] }
def k8m5 : Method := { name := "length", desc := "([B)I", sig := { parameters := [(.array .byte)], returnType := some .int }, accessFlags := 9, code := some k8c5 }
def k8c6 : Code := { maxStack := 4, maxLocals := 5, code := jdk_52_method_14_code, exceptionTable := #[], attributes := #[] }
def k8m6 : Method := { name := "toBytes", desc := "([CII)[B", sig := { parameters := [(.array .char), .int, .int], returnType := some (.array .byte) }, accessFlags := 9, code := some k8c6 }
def k8c7 : Code := { maxStack := 2, maxLocals := 2, code := jdk_52_method_15_code, exceptionTable := #[], attributes := #[] }
def k8m7 : Method := { name := "coderFromArrayLen", desc := "([BI)B", sig := { parameters := [(.array .byte), .int], returnType := some .byte }, accessFlags := 8, code := some k8c7 }
def k8c8 : Code := { maxStack := 5, maxLocals := 6, code := jdk_52_method_16_code, exceptionTable := #[], attributes := #[] }
def k8m8 : Method := { name := "compress", desc := "([CII)[B", sig := { parameters := [(.array .char), .int, .int], returnType := some (.array .byte) }, accessFlags := 9, code := some k8c8 }
def k8c9 : Code := { maxStack := 3, maxLocals := 7, code := jdk_52_method_21_code, exceptionTable := #[], attributes := #[] }
def k8m9 : Method := { name := "compress", desc := "([CI[BII)I", sig := { parameters := [(.array .char), .int, (.array .byte), .int, .int], returnType := some .int }, accessFlags := 9, code := some k8c9 }
def k8c10 : Code := { maxStack := 2, maxLocals := 2, code := jdk_52_method_83_code, exceptionTable := #[], attributes := #[] }
def k8m10 : Method := { name := "charAt", desc := "([BI)C", sig := { parameters := [(.array .byte), .int], returnType := some .char }, accessFlags := 9, code := some k8c10 }
def k8c11 : Code := { maxStack := 2, maxLocals := 2, code := jdk_52_method_91_code, exceptionTable := #[], attributes := #[] }
def k8m11 : Method := { name := "checkIndex", desc := "(I[B)V", sig := { parameters := [.int, (.array .byte)], returnType := none }, accessFlags := 9, code := some k8c11 }
/-- java/lang/StringUTF16 -/
def k8 : Class := { plain "java/lang/StringUTF16" (some 0) with
  accessFlags := 48
  interfaces := #[]
  cf := some (fileOf pool8 12 #[.nestMembers #[627, 629, 369]] #[{ accessFlags := 0, nameIndex := 9, descriptorIndex := 10, attributes := #[] }, { accessFlags := 9, nameIndex := 109, descriptorIndex := 110, attributes := #[] }, { accessFlags := 9, nameIndex := 15, descriptorIndex := 16, attributes := #[] }, { accessFlags := 8, nameIndex := 113, descriptorIndex := 114, attributes := #[] }, { accessFlags := 8, nameIndex := 73, descriptorIndex := 74, attributes := #[] }, { accessFlags := 9, nameIndex := 50, descriptorIndex := 51, attributes := #[] }, { accessFlags := 9, nameIndex := 121, descriptorIndex := 122, attributes := #[] }, { accessFlags := 8, nameIndex := 261, descriptorIndex := 262, attributes := #[] }, { accessFlags := 9, nameIndex := 117, descriptorIndex := 122, attributes := #[] }, { accessFlags := 9, nameIndex := 117, descriptorIndex := 118, attributes := #[] }, { accessFlags := 9, nameIndex := 392, descriptorIndex := 74, attributes := #[] }, { accessFlags := 9, nameIndex := 69, descriptorIndex := 70, attributes := #[] }] 48 6 #[] #[{ accessFlags := 26, nameIndex := 61, descriptorIndex := 62, attributes := #[] }, { accessFlags := 26, nameIndex := 65, descriptorIndex := 62, attributes := #[] }, { accessFlags := 24, nameIndex := 430, descriptorIndex := 62, attributes := #[] }, { accessFlags := 4120, nameIndex := 46, descriptorIndex := 47, attributes := #[] }])
  fields := #[{ name := "HI_BYTE_SHIFT", type := .int, accessFlags := 26, slot := 0, constantValue := 0 }, { name := "LO_BYTE_SHIFT", type := .int, accessFlags := 26, slot := 1, constantValue := 0 }, { name := "MAX_LENGTH", type := .int, accessFlags := 24, slot := 2, constantValue := 0 }, { name := "$assertionsDisabled", type := .boolean, accessFlags := 4120, slot := 3, constantValue := 0 }]
  methods := #[k8m0, k8m1, k8m2, k8m3, k8m4, k8m5, k8m6, k8m7, k8m8, k8m9, k8m10, k8m11]
  instanceTypes := #[]
  staticTypes := #[.int, .int, .int, .boolean]
  resolved := Array.replicate 635 none
  statics := some 1 }

def pool9 : Array CpInfo := pool [(1, .class_ 2), (0, u "java/lang/Math"), (1, .class_ 6), (1, u "java/lang/Object"), (0, u "<init>"), (0, u "()V"), (89, .class_ 100), (1, u "java/lang/Math$RandomNumberGeneratorHolder"), (71, u "negativeZeroFloatBits"), (0, u "J"), (2, u "negativeZeroDoubleBits"), (21, u "max"), (2, u "min"), (43, u "$assertionsDisabled"), (0, u "Z"), (88, u "(II)I"), (2, u "twoToTheDoubleScaleDown"), (0, u "D"), (4, u "twoToTheDoubleScaleUp"), (9, u "E"), (3, u "PI"), (2, u "TAU"), (2, u "DEGREES_TO_RADIANS"), (0, u "RADIANS_TO_DEGREES")] 94

def k9m0 : Method := { name := "<init>", desc := "()V", sig := { parameters := [], returnType := none }, accessFlags := 2, code := none }
def k9c1 : Code := { maxStack := 2, maxLocals := 2, code := jdk_29_method_65_code, exceptionTable := #[], attributes := #[] }
def k9m1 : Method := { name := "max", desc := "(II)I", sig := { parameters := [.int, .int], returnType := some .int }, accessFlags := 9, code := some k9c1 }
def k9c2 : Code := { maxStack := 2, maxLocals := 2, code := jdk_29_method_69_code, exceptionTable := #[], attributes := #[] }
def k9m2 : Method := { name := "min", desc := "(II)I", sig := { parameters := [.int, .int], returnType := some .int }, accessFlags := 9, code := some k9c2 }
/-- java/lang/Math -/
def k9 : Class := { plain "java/lang/Math" (some 0) with
  accessFlags := 49
  interfaces := #[]
  cf := some (fileOf pool9 1 #[.nestMembers #[98]] #[{ accessFlags := 2, nameIndex := 7, descriptorIndex := 8, attributes := #[] }, { accessFlags := 9, nameIndex := 198, descriptorIndex := 335, attributes := #[] }, { accessFlags := 9, nameIndex := 201, descriptorIndex := 335, attributes := #[] }] 49 4 #[] #[{ accessFlags := 25, nameIndex := 354, descriptorIndex := 339, attributes := #[] }, { accessFlags := 25, nameIndex := 358, descriptorIndex := 339, attributes := #[] }, { accessFlags := 25, nameIndex := 361, descriptorIndex := 339, attributes := #[] }, { accessFlags := 26, nameIndex := 364, descriptorIndex := 339, attributes := #[] }, { accessFlags := 26, nameIndex := 365, descriptorIndex := 339, attributes := #[] }, { accessFlags := 26, nameIndex := 172, descriptorIndex := 173, attributes := #[] }, { accessFlags := 26, nameIndex := 176, descriptorIndex := 173, attributes := #[] }, { accessFlags := 8, nameIndex := 344, descriptorIndex := 339, attributes := #[] }, { accessFlags := 8, nameIndex := 338, descriptorIndex := 339, attributes := #[] }, { accessFlags := 4120, nameIndex := 245, descriptorIndex := 246, attributes := #[] }])
  fields := #[{ name := "E", type := .double, accessFlags := 25, slot := 0, constantValue := 0 }, { name := "PI", type := .double, accessFlags := 25, slot := 1, constantValue := 0 }, { name := "TAU", type := .double, accessFlags := 25, slot := 2, constantValue := 0 }, { name := "DEGREES_TO_RADIANS", type := .double, accessFlags := 26, slot := 3, constantValue := 0 }, { name := "RADIANS_TO_DEGREES", type := .double, accessFlags := 26, slot := 4, constantValue := 0 }, { name := "negativeZeroFloatBits", type := .long, accessFlags := 26, slot := 5, constantValue := 0 }, { name := "negativeZeroDoubleBits", type := .long, accessFlags := 26, slot := 6, constantValue := 0 }, { name := "twoToTheDoubleScaleUp", type := .double, accessFlags := 8, slot := 7, constantValue := 0 }, { name := "twoToTheDoubleScaleDown", type := .double, accessFlags := 8, slot := 8, constantValue := 0 }, { name := "$assertionsDisabled", type := .boolean, accessFlags := 4120, slot := 9, constantValue := 0 }]
  methods := #[k9m0, k9m1, k9m2]
  instanceTypes := #[]
  staticTypes := #[.double, .double, .double, .double, .double, .long, .long, .double, .double, .boolean]
  resolved := Array.replicate 460 none
  statics := none }

def pool10 : Array CpInfo := pool [(2, .class_ 4), (1, u "java/lang/Object"), (0, u "<init>"), (0, u "()V"), (1, .class_ 10), (1, u "countersign/canonical/Percent"), (3, .class_ 16), (1, u "java/lang/String"), (2, .methodref 14 20), (0, .nameAndType 21 22), (0, u "charAt"), (0, u "(I)C"), (0, .methodref 8 24), (0, .nameAndType 25 26), (0, u "standsAsItIs"), (0, u "(IZ)Z"), (13, u "HEX"), (0, u "[B"), (9, .fieldref 8 52), (0, .nameAndType 53 54), (0, u "UNRESERVED"), (0, u "[Z"), (98, u "isUnreserved"), (0, u "(Ljava/lang/String;II)Z")] 32

def k10m0 : Method := { name := "<init>", desc := "()V", sig := { parameters := [], returnType := none }, accessFlags := 2, code := none }
def k10c1 : Code := { maxStack := 2, maxLocals := 4, code := prog_18_method_5_code, exceptionTable := #[], attributes := #[] }
def k10m1 : Method := { name := "isUnreserved", desc := "(Ljava/lang/String;II)Z", sig := { parameters := [(.object "java/lang/String"), .int, .int], returnType := some .boolean }, accessFlags := 8, code := some k10c1 }
def k10c2 : Code := { maxStack := 2, maxLocals := 2, code := prog_18_method_6_code, exceptionTable := #[], attributes := #[] }
def k10m2 : Method := { name := "standsAsItIs", desc := "(IZ)Z", sig := { parameters := [.int, .boolean], returnType := some .boolean }, accessFlags := 10, code := some k10c2 }
/-- countersign/canonical/Percent -/
def k10 : Class := { plain "countersign/canonical/Percent" (some 0) with
  accessFlags := 49
  interfaces := #[]
  cf := some (fileOf pool10 8 #[] #[{ accessFlags := 2, nameIndex := 5, descriptorIndex := 6, attributes := #[] }, { accessFlags := 8, nameIndex := 153, descriptorIndex := 154, attributes := #[] }, { accessFlags := 10, nameIndex := 25, descriptorIndex := 26, attributes := #[] }] 49 2 #[] #[{ accessFlags := 26, nameIndex := 40, descriptorIndex := 41, attributes := #[] }, { accessFlags := 26, nameIndex := 53, descriptorIndex := 54, attributes := #[] }])
  fields := #[{ name := "HEX", type := (.array .byte), accessFlags := 26, slot := 0, constantValue := 0 }, { name := "UNRESERVED", type := (.array .boolean), accessFlags := 26, slot := 1, constantValue := 0 }]
  methods := #[k10m0, k10m1, k10m2]
  instanceTypes := #[]
  staticTypes := #[(.array .byte), (.array .boolean)]
  resolved := Array.replicate 187 none
  statics := some 2 }

def pool11 : Array CpInfo := pool [(1, .class_ 2), (0, u "java/lang/String"), (1, .class_ 6), (1, u "java/lang/Object"), (0, u "<init>"), (0, u "()V"), (0, .methodref 1 10), (0, .nameAndType 11 12), (0, u "checkIndex"), (0, u "(II)V"), (1, .class_ 16), (1, u "java/lang/StringLatin1"), (36, u "([BI)C"), (67, u "$assertionsDisabled"), (0, u "Z"), (98, .class_ 223), (1, u "java/lang/StringLatin1$LinesSpliterator"), (28, u "charAt"), (137, .class_ 391), (0, u "java/lang/StringLatin1$CharsSpliterator")] 3

def k11m0 : Method := { name := "<init>", desc := "()V", sig := { parameters := [], returnType := none }, accessFlags := 0, code := none }
def k11c1 : Code := { maxStack := 2, maxLocals := 2, code := jdk_43_method_2_code, exceptionTable := #[], attributes := #[] }
def k11m1 : Method := { name := "charAt", desc := "([BI)C", sig := { parameters := [(.array .byte), .int], returnType := some .char }, accessFlags := 9, code := some k11c1 }
/-- java/lang/StringLatin1 -/
def k11 : Class := { plain "java/lang/StringLatin1" (some 0) with
  accessFlags := 48
  interfaces := #[]
  cf := some (fileOf pool11 14 #[.nestMembers #[390, 221]] #[{ accessFlags := 0, nameIndex := 7, descriptorIndex := 8, attributes := #[] }, { accessFlags := 9, nameIndex := 252, descriptorIndex := 53, attributes := #[] }] 48 4 #[] #[{ accessFlags := 4120, nameIndex := 121, descriptorIndex := 122, attributes := #[] }])
  fields := #[{ name := "$assertionsDisabled", type := .boolean, accessFlags := 4120, slot := 0, constantValue := 0 }]
  methods := #[k11m0, k11m1]
  instanceTypes := #[]
  staticTypes := #[.boolean]
  resolved := Array.replicate 395 none
  statics := none }

def pool12 : Array CpInfo := pool [(2, .class_ 4), (1, u "java/lang/Object"), (0, u "<init>"), (0, u "()V"), (17, .class_ 26), (1, u "jdk/internal/util/Preconditions"), (6, u "checkIndex"), (21, .class_ 56), (0, u "jdk/internal/util/Preconditions$4"), (57, .class_ 115), (0, u "jdk/internal/util/Preconditions$1"), (7, u "SIOOBE_FORMATTER"), (0, u "Ljava/util/function/BiFunction;"), (0, .class_ 126), (0, u "jdk/internal/util/Preconditions$2"), (3, u "AIOOBE_FORMATTER"), (0, .class_ 132), (0, u "jdk/internal/util/Preconditions$3"), (3, u "IOOBE_FORMATTER"), (41, u "(IILjava/util/function/BiFunction;)I")] 15

def k12m0 : Method := { name := "<init>", desc := "()V", sig := { parameters := [], returnType := none }, accessFlags := 1, code := none }
def k12c1 : Code := { maxStack := 3, maxLocals := 3, code := jdk_41_method_11_code, exceptionTable := #[], attributes := #[] }
def k12m1 : Method := { name := "checkIndex", desc := "(IILjava/util/function/BiFunction;)I", sig := { parameters := [.int, .int, (.object "java/util/function/BiFunction")], returnType := some .int }, accessFlags := 9, code := some k12c1 }
/-- jdk/internal/util/Preconditions -/
def k12 : Class := { plain "jdk/internal/util/Preconditions" (some 0) with
  accessFlags := 33
  interfaces := #[]
  cf := some (fileOf pool12 24 #[.nestMembers #[55, 131, 125, 114]] #[{ accessFlags := 1, nameIndex := 5, descriptorIndex := 6, attributes := #[] }, { accessFlags := 9, nameIndex := 33, descriptorIndex := 178, attributes := #[] }] 33 2 #[] #[{ accessFlags := 25, nameIndex := 123, descriptorIndex := 124, attributes := #[] }, { accessFlags := 25, nameIndex := 130, descriptorIndex := 124, attributes := #[] }, { accessFlags := 25, nameIndex := 136, descriptorIndex := 124, attributes := #[] }])
  fields := #[{ name := "SIOOBE_FORMATTER", type := (.object "java/util/function/BiFunction"), accessFlags := 25, slot := 0, constantValue := 0 }, { name := "AIOOBE_FORMATTER", type := (.object "java/util/function/BiFunction"), accessFlags := 25, slot := 1, constantValue := 0 }, { name := "IOOBE_FORMATTER", type := (.object "java/util/function/BiFunction"), accessFlags := 25, slot := 2, constantValue := 0 }]
  methods := #[k12m0, k12m1]
  instanceTypes := #[]
  staticTypes := #[(.object "java/util/function/BiFunction"), (.object "java/util/function/BiFunction"), (.object "java/util/function/BiFunction")]
  resolved := Array.replicate 194 none
  statics := some 3 }

def pool13 : Array CpInfo := pool [(9, u "<init>"), (6, .class_ 18), (1, u "java/lang/Object"), (0, u "()V"), (1, .class_ 23), (1, u "jdk/internal/util/ArraysSupport"), (0, u "LOG2_ARRAY_LONG_INDEX_SCALE"), (0, u "I"), (2, u "U"), (0, u "Ljdk/internal/misc/Unsafe;"), (8, u "BIG_ENDIAN"), (0, u "Z"), (8, u "LOG2_BYTE_BIT_SIZE"), (4, u "LOG2_ARRAY_INT_INDEX_SCALE"), (54, u "JLA"), (0, u "Ljdk/internal/access/JavaLangAccess;"), (11, u "LOG2_ARRAY_BOOLEAN_INDEX_SCALE"), (9, u "LOG2_ARRAY_BYTE_INDEX_SCALE"), (5, u "LOG2_ARRAY_CHAR_INDEX_SCALE"), (5, u "LOG2_ARRAY_SHORT_INDEX_SCALE"), (18, u "LOG2_ARRAY_FLOAT_INDEX_SCALE"), (24, u "LOG2_ARRAY_DOUBLE_INDEX_SCALE"), (89, u "T_BOOLEAN"), (2, u "T_CHAR"), (1, u "T_FLOAT"), (1, u "T_DOUBLE"), (1, u "T_BYTE"), (1, u "T_SHORT"), (1, u "T_INT"), (1, u "T_LONG"), (1, u "SOFT_MAX_ARRAY_LENGTH")] 83

def k13m0 : Method := { name := "<init>", desc := "()V", sig := { parameters := [], returnType := none }, accessFlags := 2, code := none }
/-- jdk/internal/util/ArraysSupport -/
def k13 : Class := { plain "jdk/internal/util/ArraysSupport" (some 0) with
  accessFlags := 33
  interfaces := #[]
  cf := some (fileOf pool13 21 #[] #[{ accessFlags := 2, nameIndex := 9, descriptorIndex := 19, attributes := #[] }] 33 16 #[] #[{ accessFlags := 24, nameIndex := 28, descriptorIndex := 29, attributes := #[] }, { accessFlags := 26, nameIndex := 38, descriptorIndex := 39, attributes := #[] }, { accessFlags := 25, nameIndex := 121, descriptorIndex := 25, attributes := #[] }, { accessFlags := 25, nameIndex := 131, descriptorIndex := 25, attributes := #[] }, { accessFlags := 25, nameIndex := 137, descriptorIndex := 25, attributes := #[] }, { accessFlags := 25, nameIndex := 143, descriptorIndex := 25, attributes := #[] }, { accessFlags := 25, nameIndex := 53, descriptorIndex := 25, attributes := #[] }, { accessFlags := 25, nameIndex := 24, descriptorIndex := 25, attributes := #[] }, { accessFlags := 25, nameIndex := 162, descriptorIndex := 25, attributes := #[] }, { accessFlags := 25, nameIndex := 187, descriptorIndex := 25, attributes := #[] }, { accessFlags := 26, nameIndex := 48, descriptorIndex := 25, attributes := #[] }, { accessFlags := 25, nameIndex := 277, descriptorIndex := 25, attributes := #[] }, { accessFlags := 25, nameIndex := 280, descriptorIndex := 25, attributes := #[] }, { accessFlags := 25, nameIndex := 282, descriptorIndex := 25, attributes := #[] }, { accessFlags := 25, nameIndex := 284, descriptorIndex := 25, attributes := #[] }, { accessFlags := 25, nameIndex := 286, descriptorIndex := 25, attributes := #[] }, { accessFlags := 25, nameIndex := 288, descriptorIndex := 25, attributes := #[] }, { accessFlags := 25, nameIndex := 290, descriptorIndex := 25, attributes := #[] }, { accessFlags := 25, nameIndex := 292, descriptorIndex := 25, attributes := #[] }, { accessFlags := 26, nameIndex := 108, descriptorIndex := 109, attributes := #[] }, { accessFlags := 25, nameIndex := 294, descriptorIndex := 25, attributes := #[] }])
  fields := #[{ name := "U", type := (.object "jdk/internal/misc/Unsafe"), accessFlags := 24, slot := 0, constantValue := 0 }, { name := "BIG_ENDIAN", type := .boolean, accessFlags := 26, slot := 1, constantValue := 0 }, { name := "LOG2_ARRAY_BOOLEAN_INDEX_SCALE", type := .int, accessFlags := 25, slot := 2, constantValue := 0 }, { name := "LOG2_ARRAY_BYTE_INDEX_SCALE", type := .int, accessFlags := 25, slot := 3, constantValue := 0 }, { name := "LOG2_ARRAY_CHAR_INDEX_SCALE", type := .int, accessFlags := 25, slot := 4, constantValue := 0 }, { name := "LOG2_ARRAY_SHORT_INDEX_SCALE", type := .int, accessFlags := 25, slot := 5, constantValue := 0 }, { name := "LOG2_ARRAY_INT_INDEX_SCALE", type := .int, accessFlags := 25, slot := 6, constantValue := 0 }, { name := "LOG2_ARRAY_LONG_INDEX_SCALE", type := .int, accessFlags := 25, slot := 7, constantValue := 0 }, { name := "LOG2_ARRAY_FLOAT_INDEX_SCALE", type := .int, accessFlags := 25, slot := 8, constantValue := 0 }, { name := "LOG2_ARRAY_DOUBLE_INDEX_SCALE", type := .int, accessFlags := 25, slot := 9, constantValue := 0 }, { name := "LOG2_BYTE_BIT_SIZE", type := .int, accessFlags := 26, slot := 10, constantValue := 0 }, { name := "T_BOOLEAN", type := .int, accessFlags := 25, slot := 11, constantValue := 0 }, { name := "T_CHAR", type := .int, accessFlags := 25, slot := 12, constantValue := 0 }, { name := "T_FLOAT", type := .int, accessFlags := 25, slot := 13, constantValue := 0 }, { name := "T_DOUBLE", type := .int, accessFlags := 25, slot := 14, constantValue := 0 }, { name := "T_BYTE", type := .int, accessFlags := 25, slot := 15, constantValue := 0 }, { name := "T_SHORT", type := .int, accessFlags := 25, slot := 16, constantValue := 0 }, { name := "T_INT", type := .int, accessFlags := 25, slot := 17, constantValue := 0 }, { name := "T_LONG", type := .int, accessFlags := 25, slot := 18, constantValue := 0 }, { name := "JLA", type := (.object "jdk/internal/access/JavaLangAccess"), accessFlags := 26, slot := 19, constantValue := 0 }, { name := "SOFT_MAX_ARRAY_LENGTH", type := .int, accessFlags := 25, slot := 20, constantValue := 0 }]
  methods := #[k13m0]
  instanceTypes := #[]
  staticTypes := #[(.object "jdk/internal/misc/Unsafe"), .boolean, .int, .int, .int, .int, .int, .int, .int, .int, .int, .int, .int, .int, .int, .int, .int, .int, .int, (.object "jdk/internal/access/JavaLangAccess"), .int]
  resolved := Array.replicate 378 none
  statics := none }

def pool14 : Array CpInfo := pool [(1, u "java/lang/Cloneable"), (0, .class_ 1), (0, u "java/lang/Object"), (0, .class_ 3)] 3

/-- java/lang/Cloneable -/
def k14 : Class := { plain "java/lang/Cloneable" (some 0) with
  accessFlags := 1537
  interfaces := #[]
  cf := some (fileOf pool14 2 #[] #[] 1537 4 #[] #[])
  fields := #[]
  methods := #[]
  instanceTypes := #[]
  staticTypes := #[]
  resolved := Array.replicate 8 none
  statics := none }

/-- the primitive boolean -/
def k15 : Class := { plain "boolean" none with kind := .primitive 'Z', accessFlags := 0x411 }
/-- [Z -/
def k16 : Class := { plain "[Z" (some 0) with kind := .array 15 .boolean, interfaces := #[14, 2], accessFlags := 1041 }

/-- the primitive byte -/
def k17 : Class := { plain "byte" none with kind := .primitive 'B', accessFlags := 0x411 }
/-- [B -/
def k18 : Class := { plain "[B" (some 0) with kind := .array 17 .byte, interfaces := #[14, 2], accessFlags := 1041 }

/-- the primitive char -/
def k19 : Class := { plain "char" none with kind := .primitive 'C', accessFlags := 0x411 }
/-- [C -/
def k20 : Class := { plain "[C" (some 0) with kind := .array 19 .char, interfaces := #[14, 2], accessFlags := 1041 }

/-- the primitive int -/
def k21 : Class := { plain "int" none with kind := .primitive 'I', accessFlags := 0x411 }
/-- [I -/
def k22 : Class := { plain "[I" (some 0) with kind := .array 21 .int, interfaces := #[14, 2], accessFlags := 1041 }

def heap : Heap := #[{ cls := 7, slots := #[.long 0, .int 1, .null, .int 0, .null, .int 0, .int 0], vm := .statics 7 },
  { cls := 8, slots := #[.int 0, .int 8, .int 0, .int 1], vm := .statics 8 },
  { cls := 10, slots := #[.null, .ref 4], vm := .statics 10 },
  { cls := 12, slots := #[.null, .null, .null], vm := .statics 12 },
  { cls := 16, slots := #[.int 0, .int 0, .int 0, .int 0, .int 0, .int 0, .int 0, .int 0, .int 0, .int 0, .int 0, .int 0, .int 0, .int 0, .int 0, .int 0, .int 0, .int 0, .int 0, .int 0, .int 0, .int 0, .int 0, .int 0, .int 0, .int 0, .int 0, .int 0, .int 0, .int 0, .int 0, .int 0, .int 0, .int 0, .int 0, .int 0, .int 0, .int 0, .int 0, .int 0, .int 0, .int 0, .int 0, .int 0, .int 0, .int 1, .int 1, .int 0, .int 1, .int 1, .int 1, .int 1, .int 1, .int 1, .int 1, .int 1, .int 1, .int 1, .int 0, .int 0, .int 0, .int 0, .int 0, .int 0, .int 0, .int 1, .int 1, .int 1, .int 1, .int 1, .int 1, .int 1, .int 1, .int 1, .int 1, .int 1, .int 1, .int 1, .int 1, .int 1, .int 1, .int 1, .int 1, .int 1, .int 1, .int 1, .int 1, .int 1, .int 1, .int 1, .int 1, .int 0, .int 0, .int 0, .int 0, .int 1, .int 0, .int 1, .int 1, .int 1, .int 1, .int 1, .int 1, .int 1, .int 1, .int 1, .int 1, .int 1, .int 1, .int 1, .int 1, .int 1, .int 1, .int 1, .int 1, .int 1, .int 1, .int 1, .int 1, .int 1, .int 1, .int 1, .int 1, .int 0, .int 0, .int 0, .int 1, .int 0], vm := .none }]
def classes : Array Class := #[k0, k1, k2, k3, k4, k5, k6, k7, k8, k9, k10, k11, k12, k13, k14, k15, k16, k17, k18, k19, k20, k21, k22]
def interned : List (Array UInt16 × Addr) := []
def slotsUsed : Nat := 144
def theMethod : MethodId := ⟨1, 4⟩
def args0 : Array Value := #[.int 65, .int 66, .int 67, .int 68, .int 1, .int 3]
def aboutOver (below : List Frame) : State where
  vm := { classes := classes, interned := interned.toArray }
  heap := heap
  slotsUsed := slotsUsed
  threads := #[{ frames := .invoking theMethod args0 :: below }]
def below0 : List Frame := [.native { method := ⟨0, 0⟩, args := #[] }]
def about1 : State := aboutOver below0
def p0 : Program := .bare "" "" ""
def e0 : Env := launch0.env 0 0 0
theorem w_frames : about1.frames = Frame.invoking theMethod args0 :: below0 := rfl
set_option maxRecDepth 65536 in
theorem w_args : argsFit about1.vm theMethod args0 = true := by decide +kernel
set_option maxRecDepth 65536 in
theorem w_heap : heapFits about1 = true := by decide +kernel
set_option maxRecDepth 65536 in
theorem w_runnable : about1.curStatus? = some .runnable := by decide +kernel
set_option maxRecDepth 65536 in
theorem w_alone : about1.alone = true := by decide +kernel
set_option maxRecDepth 65536 in
theorem w_named : about1.methodNamed? x = some theMethod := by decide +kernel
set_option maxRecDepth 65536 in
theorem w_hears : about1.hears theMethod below0 = true := by decide +kernel
set_option maxRecDepth 65536 in
theorem w_ripe : about1.ripe theMethod args0 below0 = true := by decide +kernel
theorem w_running : about1.status = .running := rfl
set_option maxRecDepth 65536 in
theorem w_room : about1.hasRoom e0.platform room_1 = true :=
  launch0.hasRoom_least _ room_1 (by decide +kernel) (by decide +kernel) (by decide +kernel) (by decide +kernel) (by decide +kernel) (by decide +kernel)
theorem allAtoms_all (ts : List Jvm.Cond) (a : Array Jvm.Value) (st : Jvm.State) : (allAtoms ts).before a st = ts.all (fun c => c.before a st) := by
  induction ts with
  | nil => rfl
  | cons c t ih =>
    show (Jvm.Cond.and c (allAtoms t)).before a st = _
    rw [Jvm.Cond.before_and, ih, List.all_cons]
def words1 : List Jvm.Cond := Jvm.Cond.code x code maxLocals ret :: tables_1
/-- a 'code' word, met by the world's own term for the bytes: nothing is compared byte by byte -/
theorem code_word {y : MethodName} {bytes : ByteArray} {mx : Nat} {rt : Option FieldType} {a : Array Value} {s : State} {m : MethodId} {meth : Method} {c : Code} (h1 : s.methodNamed? y = some m) (h2 : s.vm.method? m = some meth) (h3 : meth.code = some c) (h4 : c.code = bytes)
    (h5 : (c.maxLocals == mx && c.exceptionTable.isEmpty && decide (c.maxStack ≤ mostOperands) && decide (meth.sig.returnType = rt) && !meth.locks && decide (parseMethodDescriptor y.desc = some meth.sig)) = true) : (Jvm.Cond.code y bytes mx rt).before a s = true := by
  simp only [Bool.and_eq_true, beq_iff_eq, Bool.not_eq_true', decide_eq_true_eq] at h5
  obtain ⟨⟨⟨⟨⟨g1, g2⟩, g3⟩, g4⟩, g5⟩, g6⟩ := h5
  simp [Cond.before, Cond.holds, Cond.value, h1, h2, h3, h4, g1, g2, g3, g4, g5, g6]
def isCode : Jvm.Cond → Bool
  | .code _ _ _ _ => true
  | _ => false
theorem all_split {L : List Jvm.Cond} {P : Jvm.Cond → Bool} (h1 : L.all (fun c => isCode c || P c) = true) (h2 : ∀ c ∈ L.filter isCode, P c = true) : L.all P = true := by
  refine List.all_eq_true.mpr fun c hc => ?_
  have h := List.all_eq_true.mp h1 c hc
  rcases Bool.eq_false_or_eq_true (isCode c) with hi | hi
  · exact h2 c (List.mem_filter.mpr ⟨hc, hi⟩)
  · simpa [hi] using h
set_option maxRecDepth 65536 in
theorem w_c0 : (Jvm.Cond.code x code maxLocals ret).before args0 about1 = true := code_word (m := ⟨1, 4⟩) (meth := k1m4) (c := k1c4) (by decide +kernel) rfl rfl rfl (by decide +kernel)
set_option maxRecDepth 65536 in
theorem w_c1 : (Jvm.Cond.code ({ cls := "countersign/canonical/PercentIsUnreservedPinLaw", name := "draw", desc := "(I)C" } : Jvm.MethodName) method_2_code (1 : Nat) (Option.some Jvm.ClassFile.FieldType.char)).before args0 about1 = true := code_word (m := ⟨1, 1⟩) (meth := k1m1) (c := k1c1) (by decide +kernel) rfl rfl rfl (by decide +kernel)
set_option maxRecDepth 65536 in
theorem w_c2 : (Jvm.Cond.code ({ cls := "java/lang/String", name := "<init>", desc := "([C)V" } : Jvm.MethodName) jdk_42_method_3_code (2 : Nat) (Option.none : Option Jvm.ClassFile.FieldType)).before args0 about1 = true := code_word (m := ⟨7, 1⟩) (meth := k7m1) (c := k7c1) (by decide +kernel) rfl rfl rfl (by decide +kernel)
set_option maxRecDepth 65536 in
theorem w_c3 : (Jvm.Cond.code ({ cls := "java/lang/String", name := "<init>", desc := "([CIILjava/lang/Void;)V" } : Jvm.MethodName) jdk_42_method_149_code (6 : Nat) (Option.none : Option Jvm.ClassFile.FieldType)).before args0 about1 = true := code_word (m := ⟨7, 3⟩) (meth := k7m3) (c := k7c3) (by decide +kernel) rfl rfl rfl (by decide +kernel)
set_option maxRecDepth 65536 in
theorem w_c4 : (Jvm.Cond.code ({ cls := "java/lang/Object", name := "<init>", desc := "()V" } : Jvm.MethodName) object_method_1_code (1 : Nat) (Option.none : Option Jvm.ClassFile.FieldType)).before args0 about1 = true := code_word (m := ⟨0, 0⟩) (meth := k0m0) (c := k0c0) (by decide +kernel) rfl rfl rfl (by decide +kernel)
set_option maxRecDepth 65536 in
theorem w_c5 : (Jvm.Cond.code ({ cls := "java/lang/StringUTF16", name := "compress", desc := "([CII)[B" } : Jvm.MethodName) jdk_52_method_16_code (6 : Nat) (Option.some (Jvm.ClassFile.FieldType.array Jvm.ClassFile.FieldType.byte))).before args0 about1 = true := code_word (m := ⟨8, 8⟩) (meth := k8m8) (c := k8c8) (by decide +kernel) rfl rfl rfl (by decide +kernel)
set_option maxRecDepth 65536 in
theorem w_c6 : (Jvm.Cond.code ({ cls := "java/lang/StringUTF16", name := "compress", desc := "([CI[BII)I" } : Jvm.MethodName) jdk_52_method_21_code (7 : Nat) (Option.some Jvm.ClassFile.FieldType.int)).before args0 about1 = true := code_word (m := ⟨8, 9⟩) (meth := k8m9) (c := k8c9) (by decide +kernel) rfl rfl rfl (by decide +kernel)
set_option maxRecDepth 65536 in
theorem w_c7 : (Jvm.Cond.code ({ cls := "java/lang/StringUTF16", name := "coderFromArrayLen", desc := "([BI)B" } : Jvm.MethodName) jdk_52_method_15_code (2 : Nat) (Option.some Jvm.ClassFile.FieldType.byte)).before args0 about1 = true := code_word (m := ⟨8, 7⟩) (meth := k8m7) (c := k8c7) (by decide +kernel) rfl rfl rfl (by decide +kernel)
set_option maxRecDepth 65536 in
theorem w_c8 : (Jvm.Cond.code ({ cls := "java/lang/Math", name := "min", desc := "(II)I" } : Jvm.MethodName) jdk_29_method_69_code (2 : Nat) (Option.some Jvm.ClassFile.FieldType.int)).before args0 about1 = true := code_word (m := ⟨9, 2⟩) (meth := k9m2) (c := k9c2) (by decide +kernel) rfl rfl rfl (by decide +kernel)
set_option maxRecDepth 65536 in
theorem w_c9 : (Jvm.Cond.code ({ cls := "java/lang/Math", name := "max", desc := "(II)I" } : Jvm.MethodName) jdk_29_method_65_code (2 : Nat) (Option.some Jvm.ClassFile.FieldType.int)).before args0 about1 = true := code_word (m := ⟨9, 1⟩) (meth := k9m1) (c := k9c1) (by decide +kernel) rfl rfl rfl (by decide +kernel)
set_option maxRecDepth 65536 in
theorem w_c10 : (Jvm.Cond.code ({ cls := "countersign/canonical/PercentIsUnreservedPinLaw", name := "ok", desc := "(IIIC)Z" } : Jvm.MethodName) method_4_code (4 : Nat) (Option.some Jvm.ClassFile.FieldType.boolean)).before args0 about1 = true := code_word (m := ⟨1, 3⟩) (meth := k1m3) (c := k1c3) (by decide +kernel) rfl rfl rfl (by decide +kernel)
set_option maxRecDepth 65536 in
theorem w_c11 : (Jvm.Cond.code ({ cls := "countersign/canonical/PercentIsUnreservedPinLaw", name := "isU", desc := "(C)Z" } : Jvm.MethodName) method_3_code (1 : Nat) (Option.some Jvm.ClassFile.FieldType.boolean)).before args0 about1 = true := code_word (m := ⟨1, 2⟩) (meth := k1m2) (c := k1c2) (by decide +kernel) rfl rfl rfl (by decide +kernel)
set_option maxRecDepth 65536 in
theorem w_c12 : (Jvm.Cond.code ({ cls := "countersign/canonical/Percent", name := "isUnreserved", desc := "(Ljava/lang/String;II)Z" } : Jvm.MethodName) prog_18_method_5_code (4 : Nat) (Option.some Jvm.ClassFile.FieldType.boolean)).before args0 about1 = true := code_word (m := ⟨10, 1⟩) (meth := k10m1) (c := k10c1) (by decide +kernel) rfl rfl rfl (by decide +kernel)
set_option maxRecDepth 65536 in
theorem w_c13 : (Jvm.Cond.code ({ cls := "java/lang/String", name := "charAt", desc := "(I)C" } : Jvm.MethodName) jdk_42_method_56_code (2 : Nat) (Option.some Jvm.ClassFile.FieldType.char)).before args0 about1 = true := code_word (m := ⟨7, 2⟩) (meth := k7m2) (c := k7c2) (by decide +kernel) rfl rfl rfl (by decide +kernel)
set_option maxRecDepth 65536 in
theorem w_c14 : (Jvm.Cond.code ({ cls := "java/lang/String", name := "isLatin1", desc := "()Z" } : Jvm.MethodName) jdk_42_method_154_code (1 : Nat) (Option.some Jvm.ClassFile.FieldType.boolean)).before args0 about1 = true := code_word (m := ⟨7, 4⟩) (meth := k7m4) (c := k7c4) (by decide +kernel) rfl rfl rfl (by decide +kernel)
set_option maxRecDepth 65536 in
theorem w_c15 : (Jvm.Cond.code ({ cls := "java/lang/StringLatin1", name := "charAt", desc := "([BI)C" } : Jvm.MethodName) jdk_43_method_2_code (2 : Nat) (Option.some Jvm.ClassFile.FieldType.char)).before args0 about1 = true := code_word (m := ⟨11, 1⟩) (meth := k11m1) (c := k11c1) (by decide +kernel) rfl rfl rfl (by decide +kernel)
set_option maxRecDepth 65536 in
theorem w_c16 : (Jvm.Cond.code ({ cls := "java/lang/String", name := "checkIndex", desc := "(II)V" } : Jvm.MethodName) jdk_42_method_155_code (2 : Nat) (Option.none : Option Jvm.ClassFile.FieldType)).before args0 about1 = true := code_word (m := ⟨7, 5⟩) (meth := k7m5) (c := k7c5) (by decide +kernel) rfl rfl rfl (by decide +kernel)
set_option maxRecDepth 65536 in
theorem w_c17 : (Jvm.Cond.code ({ cls := "jdk/internal/util/Preconditions", name := "checkIndex", desc := "(IILjava/util/function/BiFunction;)I" } : Jvm.MethodName) jdk_41_method_11_code (3 : Nat) (Option.some Jvm.ClassFile.FieldType.int)).before args0 about1 = true := code_word (m := ⟨12, 1⟩) (meth := k12m1) (c := k12c1) (by decide +kernel) rfl rfl rfl (by decide +kernel)
set_option maxRecDepth 65536 in
theorem w_c18 : (Jvm.Cond.code ({ cls := "countersign/canonical/Percent", name := "standsAsItIs", desc := "(IZ)Z" } : Jvm.MethodName) prog_18_method_6_code (2 : Nat) (Option.some Jvm.ClassFile.FieldType.boolean)).before args0 about1 = true := code_word (m := ⟨10, 2⟩) (meth := k10m2) (c := k10c2) (by decide +kernel) rfl rfl rfl (by decide +kernel)
set_option maxRecDepth 65536 in
theorem w_c19 : (Jvm.Cond.code ({ cls := "java/lang/StringUTF16", name := "toBytes", desc := "([CII)[B" } : Jvm.MethodName) jdk_52_method_14_code (5 : Nat) (Option.some (Jvm.ClassFile.FieldType.array Jvm.ClassFile.FieldType.byte))).before args0 about1 = true := code_word (m := ⟨8, 6⟩) (meth := k8m6) (c := k8c6) (by decide +kernel) rfl rfl rfl (by decide +kernel)
set_option maxRecDepth 65536 in
theorem w_c20 : (Jvm.Cond.code ({ cls := "java/lang/StringUTF16", name := "newBytesFor", desc := "(I)[B" } : Jvm.MethodName) jdk_52_method_2_code (1 : Nat) (Option.some (Jvm.ClassFile.FieldType.array Jvm.ClassFile.FieldType.byte))).before args0 about1 = true := code_word (m := ⟨8, 1⟩) (meth := k8m1) (c := k8c1) (by decide +kernel) rfl rfl rfl (by decide +kernel)
set_option maxRecDepth 65536 in
theorem w_c21 : (Jvm.Cond.code ({ cls := "java/lang/StringUTF16", name := "newBytesLength", desc := "(I)I" } : Jvm.MethodName) jdk_52_method_3_code (1 : Nat) (Option.some Jvm.ClassFile.FieldType.int)).before args0 about1 = true := code_word (m := ⟨8, 2⟩) (meth := k8m2) (c := k8c2) (by decide +kernel) rfl rfl rfl (by decide +kernel)
set_option maxRecDepth 65536 in
theorem w_c22 : (Jvm.Cond.code ({ cls := "java/lang/StringUTF16", name := "putChar", desc := "([BII)V" } : Jvm.MethodName) jdk_52_method_4_code (3 : Nat) (Option.none : Option Jvm.ClassFile.FieldType)).before args0 about1 = true := code_word (m := ⟨8, 3⟩) (meth := k8m3) (c := k8c3) (by decide +kernel) rfl rfl rfl (by decide +kernel)
set_option maxRecDepth 65536 in
theorem w_c23 : (Jvm.Cond.code ({ cls := "java/lang/StringUTF16", name := "getChar", desc := "([BI)C" } : Jvm.MethodName) jdk_52_method_5_code (2 : Nat) (Option.some Jvm.ClassFile.FieldType.char)).before args0 about1 = true := code_word (m := ⟨8, 4⟩) (meth := k8m4) (c := k8c4) (by decide +kernel) rfl rfl rfl (by decide +kernel)
set_option maxRecDepth 65536 in
theorem w_c24 : (Jvm.Cond.code ({ cls := "java/lang/StringUTF16", name := "charAt", desc := "([BI)C" } : Jvm.MethodName) jdk_52_method_83_code (2 : Nat) (Option.some Jvm.ClassFile.FieldType.char)).before args0 about1 = true := code_word (m := ⟨8, 10⟩) (meth := k8m10) (c := k8c10) (by decide +kernel) rfl rfl rfl (by decide +kernel)
set_option maxRecDepth 65536 in
theorem w_c25 : (Jvm.Cond.code ({ cls := "java/lang/StringUTF16", name := "checkIndex", desc := "(I[B)V" } : Jvm.MethodName) jdk_52_method_91_code (2 : Nat) (Option.none : Option Jvm.ClassFile.FieldType)).before args0 about1 = true := code_word (m := ⟨8, 11⟩) (meth := k8m11) (c := k8c11) (by decide +kernel) rfl rfl rfl (by decide +kernel)
set_option maxRecDepth 65536 in
theorem w_c26 : (Jvm.Cond.code ({ cls := "java/lang/StringUTF16", name := "length", desc := "([B)I" } : Jvm.MethodName) jdk_52_method_6_code (1 : Nat) (Option.some Jvm.ClassFile.FieldType.int)).before args0 about1 = true := code_word (m := ⟨8, 5⟩) (meth := k8m5) (c := k8c5) (by decide +kernel) rfl rfl rfl (by decide +kernel)
def codes1 : List Jvm.Cond := [Jvm.Cond.code x code maxLocals ret, Jvm.Cond.code ({ cls := "countersign/canonical/PercentIsUnreservedPinLaw", name := "draw", desc := "(I)C" } : Jvm.MethodName) method_2_code (1 : Nat) (Option.some Jvm.ClassFile.FieldType.char), Jvm.Cond.code ({ cls := "java/lang/String", name := "<init>", desc := "([C)V" } : Jvm.MethodName) jdk_42_method_3_code (2 : Nat) (Option.none : Option Jvm.ClassFile.FieldType), Jvm.Cond.code ({ cls := "java/lang/String", name := "<init>", desc := "([CIILjava/lang/Void;)V" } : Jvm.MethodName) jdk_42_method_149_code (6 : Nat) (Option.none : Option Jvm.ClassFile.FieldType), Jvm.Cond.code ({ cls := "java/lang/Object", name := "<init>", desc := "()V" } : Jvm.MethodName) object_method_1_code (1 : Nat) (Option.none : Option Jvm.ClassFile.FieldType), Jvm.Cond.code ({ cls := "java/lang/StringUTF16", name := "compress", desc := "([CII)[B" } : Jvm.MethodName) jdk_52_method_16_code (6 : Nat) (Option.some (Jvm.ClassFile.FieldType.array Jvm.ClassFile.FieldType.byte)), Jvm.Cond.code ({ cls := "java/lang/StringUTF16", name := "compress", desc := "([CI[BII)I" } : Jvm.MethodName) jdk_52_method_21_code (7 : Nat) (Option.some Jvm.ClassFile.FieldType.int), Jvm.Cond.code ({ cls := "java/lang/StringUTF16", name := "coderFromArrayLen", desc := "([BI)B" } : Jvm.MethodName) jdk_52_method_15_code (2 : Nat) (Option.some Jvm.ClassFile.FieldType.byte), Jvm.Cond.code ({ cls := "java/lang/Math", name := "min", desc := "(II)I" } : Jvm.MethodName) jdk_29_method_69_code (2 : Nat) (Option.some Jvm.ClassFile.FieldType.int), Jvm.Cond.code ({ cls := "java/lang/Math", name := "max", desc := "(II)I" } : Jvm.MethodName) jdk_29_method_65_code (2 : Nat) (Option.some Jvm.ClassFile.FieldType.int), Jvm.Cond.code ({ cls := "countersign/canonical/PercentIsUnreservedPinLaw", name := "ok", desc := "(IIIC)Z" } : Jvm.MethodName) method_4_code (4 : Nat) (Option.some Jvm.ClassFile.FieldType.boolean), Jvm.Cond.code ({ cls := "countersign/canonical/PercentIsUnreservedPinLaw", name := "isU", desc := "(C)Z" } : Jvm.MethodName) method_3_code (1 : Nat) (Option.some Jvm.ClassFile.FieldType.boolean), Jvm.Cond.code ({ cls := "countersign/canonical/Percent", name := "isUnreserved", desc := "(Ljava/lang/String;II)Z" } : Jvm.MethodName) prog_18_method_5_code (4 : Nat) (Option.some Jvm.ClassFile.FieldType.boolean), Jvm.Cond.code ({ cls := "java/lang/String", name := "charAt", desc := "(I)C" } : Jvm.MethodName) jdk_42_method_56_code (2 : Nat) (Option.some Jvm.ClassFile.FieldType.char), Jvm.Cond.code ({ cls := "java/lang/String", name := "isLatin1", desc := "()Z" } : Jvm.MethodName) jdk_42_method_154_code (1 : Nat) (Option.some Jvm.ClassFile.FieldType.boolean), Jvm.Cond.code ({ cls := "java/lang/StringLatin1", name := "charAt", desc := "([BI)C" } : Jvm.MethodName) jdk_43_method_2_code (2 : Nat) (Option.some Jvm.ClassFile.FieldType.char), Jvm.Cond.code ({ cls := "java/lang/String", name := "checkIndex", desc := "(II)V" } : Jvm.MethodName) jdk_42_method_155_code (2 : Nat) (Option.none : Option Jvm.ClassFile.FieldType), Jvm.Cond.code ({ cls := "jdk/internal/util/Preconditions", name := "checkIndex", desc := "(IILjava/util/function/BiFunction;)I" } : Jvm.MethodName) jdk_41_method_11_code (3 : Nat) (Option.some Jvm.ClassFile.FieldType.int), Jvm.Cond.code ({ cls := "countersign/canonical/Percent", name := "standsAsItIs", desc := "(IZ)Z" } : Jvm.MethodName) prog_18_method_6_code (2 : Nat) (Option.some Jvm.ClassFile.FieldType.boolean), Jvm.Cond.code ({ cls := "java/lang/StringUTF16", name := "toBytes", desc := "([CII)[B" } : Jvm.MethodName) jdk_52_method_14_code (5 : Nat) (Option.some (Jvm.ClassFile.FieldType.array Jvm.ClassFile.FieldType.byte)), Jvm.Cond.code ({ cls := "java/lang/StringUTF16", name := "newBytesFor", desc := "(I)[B" } : Jvm.MethodName) jdk_52_method_2_code (1 : Nat) (Option.some (Jvm.ClassFile.FieldType.array Jvm.ClassFile.FieldType.byte)), Jvm.Cond.code ({ cls := "java/lang/StringUTF16", name := "newBytesLength", desc := "(I)I" } : Jvm.MethodName) jdk_52_method_3_code (1 : Nat) (Option.some Jvm.ClassFile.FieldType.int), Jvm.Cond.code ({ cls := "java/lang/StringUTF16", name := "putChar", desc := "([BII)V" } : Jvm.MethodName) jdk_52_method_4_code (3 : Nat) (Option.none : Option Jvm.ClassFile.FieldType), Jvm.Cond.code ({ cls := "java/lang/StringUTF16", name := "getChar", desc := "([BI)C" } : Jvm.MethodName) jdk_52_method_5_code (2 : Nat) (Option.some Jvm.ClassFile.FieldType.char), Jvm.Cond.code ({ cls := "java/lang/StringUTF16", name := "charAt", desc := "([BI)C" } : Jvm.MethodName) jdk_52_method_83_code (2 : Nat) (Option.some Jvm.ClassFile.FieldType.char), Jvm.Cond.code ({ cls := "java/lang/StringUTF16", name := "checkIndex", desc := "(I[B)V" } : Jvm.MethodName) jdk_52_method_91_code (2 : Nat) (Option.none : Option Jvm.ClassFile.FieldType), Jvm.Cond.code ({ cls := "java/lang/StringUTF16", name := "length", desc := "([B)I" } : Jvm.MethodName) jdk_52_method_6_code (1 : Nat) (Option.some Jvm.ClassFile.FieldType.int)]
set_option maxRecDepth 65536 in
theorem codes_eq : words1.filter isCode = codes1 := rfl
theorem w_codes : ∀ c ∈ words1.filter isCode, c.before args0 about1 = true := by
  rw [codes_eq]
  intro c hc
  simp only [codes1, List.mem_cons, List.not_mem_nil, or_false] at hc
  rcases hc with rfl | rfl | rfl | rfl | rfl | rfl | rfl | rfl | rfl | rfl | rfl | rfl | rfl | rfl | rfl | rfl | rfl | rfl | rfl | rfl | rfl | rfl | rfl | rfl | rfl | rfl | rfl
  · exact w_c0
  · exact w_c1
  · exact w_c2
  · exact w_c3
  · exact w_c4
  · exact w_c5
  · exact w_c6
  · exact w_c7
  · exact w_c8
  · exact w_c9
  · exact w_c10
  · exact w_c11
  · exact w_c12
  · exact w_c13
  · exact w_c14
  · exact w_c15
  · exact w_c16
  · exact w_c17
  · exact w_c18
  · exact w_c19
  · exact w_c20
  · exact w_c21
  · exact w_c22
  · exact w_c23
  · exact w_c24
  · exact w_c25
  · exact w_c26
set_option maxRecDepth 65536 in
theorem w_t1 : (words1.take 24).all (fun c => isCode c || c.before args0 about1) = true := by decide +kernel
set_option maxRecDepth 65536 in
theorem w_t2 : ((words1.drop 24).take 24).all (fun c => isCode c || c.before args0 about1) = true := by decide +kernel
set_option maxRecDepth 65536 in
theorem w_t3 : (((words1.drop 24).drop 24).take 24).all (fun c => isCode c || c.before args0 about1) = true := by decide +kernel
set_option maxRecDepth 65536 in
theorem w_t4 : ((((words1.drop 24).drop 24).drop 24).take 24).all (fun c => isCode c || c.before args0 about1) = true := by decide +kernel
set_option maxRecDepth 65536 in
theorem w_t5 : ((((words1.drop 24).drop 24).drop 24).drop 24).all (fun c => isCode c || c.before args0 about1) = true := by decide +kernel
theorem w_tables : (allAtoms (Jvm.Cond.code x code maxLocals ret :: tables_1)).before args0 about1 = true := by
  rw [allAtoms_all]
  show words1.all (fun c => c.before args0 about1) = true
  refine all_split ?_ w_codes
  rw [← List.take_append_drop 24 words1, List.all_append, w_t1, ← List.take_append_drop 24 (words1.drop 24), List.all_append, w_t2, ← List.take_append_drop 24 ((words1.drop 24).drop 24), List.all_append, w_t3, ← List.take_append_drop 24 (((words1.drop 24).drop 24).drop 24), List.all_append, w_t4, w_t5]
  rfl
set_option maxRecDepth 65536 in
theorem w_rest : rest_1_c.before args0 about1 = true := by decide +kernel
set_option maxRecDepth 65536 in
theorem w_case : (Jvm.Cond.and given_1 narrow_1).before args0 about1 = true := by decide +kernel
theorem w_applies : (headSpec (Jvm.Cond.code x code maxLocals ret :: tables_1) room_1).applies x e0.platform about1 = true :=
  (Spec.applies_iff w_frames).mpr ⟨w_running, w_runnable, w_alone, w_named, w_hears, w_ripe, w_room, w_tables⟩
theorem atStart : AtStart classFile x code maxLocals ret World_1 tables_1 room_1 Calls_1 rest_1 Pre_1 launch0 p0 e0 about1 theMethod args0 below0 :=
  ⟨lists_1, trivial, launch0.admits_env _ _ _, launch0.least_env, fairChoices_fair.cas, fairChoices_fair.clock, w_frames, w_args, w_heap, w_applies, trivial, w_rest, w_case⟩
end start1
theorem witness_1 : WitnessClaimed_1 := ⟨start1.p0, start1.e0, start1.about1, start1.theMethod, start1.args0, start1.below0, start1.atStart⟩
end Jvm.Pilot.@@N@@
