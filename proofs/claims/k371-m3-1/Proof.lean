import JvmDerived
import JvmDerived.Pilot.@@N@@Statement
import JvmDerived.Pilot.@@N@@Code
set_option linter.unusedVariables false
set_option linter.unusedSimpArgs false
namespace Jvm.OwnWalk
open Sem ClassFile Op Lib Jvm.Stand Jvm.Free Jvm.LawKit Jvm.RoadKit
/-- from t the run comes to an end of which P holds -/
def Win (tb : Tables) (e : Env) (below : List Frame) (P : State → Outcome → Prop) (t : State) : Prop :=
  ∃ s₂ o, Steps tb e below t s₂ ∧ s₂.status = .running ∧ Ended s₂ below o ∧ P s₂ o
theorem Win.go {tb : Tables} {e : Env} {below : List Frame} {P : State → Outcome → Prop} {t t' : State} (st : ∀ z, Steps tb e below t' z → Steps tb e below t z) (w : Win tb e below P t') : Win tb e below P t := by
  obtain ⟨s2, o, h, r⟩ := w; exact ⟨s2, o, st _ h, r⟩
theorem Win.come {tb : Tables} {e : Env} {below : List Frame} {P : State → Outcome → Prop} {t t' : State} (st : Steps tb e below t t') (w : Win tb e below P t') : Win tb e below P t := by
  obtain ⟨s2, o, h, r⟩ := w; exact ⟨s2, o, st.trans h, r⟩
/-- the body has returned v with the heap h, L written -/
def PostQ (s : State) (Q : Option Value → Heap → List Loc → Prop) (C S : Nat) (u : State) (o : Outcome) : Prop := ∃ v L, o = .returned v ∧ Q v u.heap L ∧ FrameEnd s o u L C S
section Ret
variable {p : Program} {l : Launch} {e : Env} {R : Room} {s : State} {m : MethodId} {args : Array Value} {below : List Frame} {meth : Method} {c : Code} {T : State} {locs : List Loc} {cells slots : Nat} {h : Heap} {Q : Option Value → Heap → List Loc → Prop} {C S : Nat}
theorem retI' (X : Stand p l e R s m args below meth c T locs cells slots) (hx : p.tables.exec = Jvm.exec) {pc : Nat} {Ls : Array Slot} {z : Int32} {rest : List Value} (hret : meth.sig.returnType = some .int) (hd : decode c.code pc = .ok (.ireturn, 1)) {fs : List Frame}
    (hl : ∀ (f : JFrame) (acts : List Action), f.method = m → f.locked = none → f.entered = [] → (doReturn e (T.setTop f) acts (some (.int z))).1 = T.setFrames fs) : Steps p.tables e below (T.setTop (mkF m pc Ls (.int z :: rest))) (T.setFrames fs) := by
  have hm' : T.vm.method? m = some meth := X.method'
  have hn : narrow .int (.int z) = .int z := rfl
  show Steps p.tables e below (T.setTop { method := m, pc := pc, locals := Ls, stack := _ :: rest, locked := none }) _
  jvm_step X.here [X.here.top, hx, hd, hm', hret, hn]
  first | (intro acts; rw [hl _ acts rfl rfl rfl]) | rw [hl _ _ rfl rfl rfl]
  exact Steps.refl _
theorem retA' (X : Stand p l e R s m args below meth c T locs cells slots) (hx : p.tables.exec = Jvm.exec) {pc : Nat} {Ls : Array Slot} {w : Value} {t : FieldType} (hret : meth.sig.returnType = some t) (ht : t.isReference = true) (hv : w.isRef = true) (hd : decode c.code pc = .ok (.areturn, 1)) {fs : List Frame}
    (hl : ∀ (f : JFrame) (acts : List Action), f.method = m → f.locked = none → f.entered = [] → (doReturn e (T.setTop f) acts (some w)).1 = T.setFrames fs) : Steps p.tables e below (T.setTop (mkF m pc Ls [w])) (T.setFrames fs) := by
  have hm' : T.vm.method? m = some meth := X.method'
  show Steps p.tables e below (T.setTop { method := m, pc := pc, locals := Ls, stack := [w], locked := none }) _
  jvm_step X.here [X.here.top, hx, hd, hm', hret, hv, ht]
  first | (intro acts; rw [hl _ acts rfl rfl rfl]) | rw [hl _ _ rfl rfl rfl]
  exact Steps.refl _
theorem winI (X : Stand p l e R s m args below meth c T locs cells slots) (hx : p.tables.exec = Jvm.exec) (hlk : meth.locks = false) (eT : T.heap = h) {pc : Nat} {Ls : Array Slot} {z : Int32} {rest : List Value} (hret : meth.sig.returnType = some .int) (hd : decode c.code pc = .ok (.ireturn, 1))
    (hc : cells ≤ C) (hs : slots ≤ S) (hQ : Q (some (.int z)) h locs) : Win p.tables e below (PostQ s Q C S) (T.setTop (mkF m pc Ls (.int z :: rest))) := by
  subst eT
  obtain ⟨fs, hr, hrun, hended, hW, hsame⟩ := X.leave (v := some (.int z)) (fun h => by rw [hret] at h; cases h) hlk
  exact ⟨_, _, retI' X hx hret hd hr, hrun, hended, _, _, rfl, hQ, ⟨_, rfl⟩, hW, hsame.mono hc hs⟩
theorem winN (X : Stand p l e R s m args below meth c T locs cells slots) (hx : p.tables.exec = Jvm.exec) (hlk : meth.locks = false) (eT : T.heap = h) {pc : Nat} {Ls : Array Slot} {z z' : Int32} {rest : List Value} {t : FieldType} (hret : meth.sig.returnType = some t) (ht : t = .boolean ∨ t = .byte ∨ t = .char ∨ t = .short) (hd : decode c.code pc = .ok (.ireturn, 1))
    (hc : cells ≤ C) (hs : slots ≤ S) (hz : nar t z = z') (hQ : Q (some (.int z')) h locs) : Win p.tables e below (PostQ s Q C S) (T.setTop (mkF m pc Ls (.int z :: rest))) := by
  subst eT hz
  obtain ⟨fs, hr, hrun, hended, hW, hsame⟩ := X.leave (v := some (.int (nar t z))) (fun h => by rw [hret] at h; cases h) hlk
  exact ⟨_, _, retN X hx hret ht hd hr, hrun, hended, _, _, rfl, hQ, ⟨_, rfl⟩, hW, hsame.mono hc hs⟩
theorem winL (X : Stand p l e R s m args below meth c T locs cells slots) (hx : p.tables.exec = Jvm.exec) (hlk : meth.locks = false) (eT : T.heap = h) {pc : Nat} {Ls : Array Slot} {z : Int64} (hret : meth.sig.returnType = some .long) (hd : decode c.code pc = .ok (.lreturn, 1))
    (hc : cells ≤ C) (hs : slots ≤ S) (hQ : Q (some (.long z)) h locs) : Win p.tables e below (PostQ s Q C S) (T.setTop (mkF m pc Ls [.long z])) := by
  subst eT
  obtain ⟨fs, hr, hrun, hended, hW, hsame⟩ := X.leave (v := some (.long z)) (fun h => by rw [hret] at h; cases h) hlk
  exact ⟨_, _, X.lreturnOut hx hret hd hr, hrun, hended, _, _, rfl, hQ, ⟨_, rfl⟩, hW, hsame.mono hc hs⟩
theorem winA (X : Stand p l e R s m args below meth c T locs cells slots) (hx : p.tables.exec = Jvm.exec) (hlk : meth.locks = false) (eT : T.heap = h) {pc : Nat} {Ls : Array Slot} {w : Value} {t : FieldType} (hret : meth.sig.returnType = some t) (ht : t.isReference = true) (hv : w.isRef = true) (hd : decode c.code pc = .ok (.areturn, 1))
    (hc : cells ≤ C) (hs : slots ≤ S) (hQ : Q (some w) h locs) : Win p.tables e below (PostQ s Q C S) (T.setTop (mkF m pc Ls [w])) := by
  subst eT
  obtain ⟨fs, hr, hrun, hended, hW, hsame⟩ := X.leave (v := some w) (fun h => by rw [hret] at h; cases h) hlk
  exact ⟨_, _, retA' X hx hret ht hv hd hr, hrun, hended, _, _, rfl, hQ, ⟨_, rfl⟩, hW, hsame.mono hc hs⟩
theorem winV (X : Stand p l e R s m args below meth c T locs cells slots) (hx : p.tables.exec = Jvm.exec) (hlk : meth.locks = false) (eT : T.heap = h) {pc : Nat} {Ls : Array Slot} (hret : meth.sig.returnType = none) (hd : decode c.code pc = .ok (.return_, 1))
    (hc : cells ≤ C) (hs : slots ≤ S) (hQ : Q none h locs) : Win p.tables e below (PostQ s Q C S) (T.setTop (mkF m pc Ls [])) := by
  subst eT
  obtain ⟨fs, hr, hrun, hended, hW, hsame⟩ := X.leave (v := none) (fun _ => rfl) hlk
  exact ⟨_, _, X.returnOut hx hret hd hr, hrun, hended, _, _, rfl, hQ, ⟨_, rfl⟩, hW, hsame.mono hc hs⟩
def PostQW (s : State) (Q : Option Value → Heap → List Loc → Prop) (C S : Nat) (u : State) (o : Outcome) : Prop := ∃ v L, o = .returned v ∧ Q v u.heap L ∧ ReturnedEndW s o u L C S
theorem winNW {vm0 : Vm} {k0 : Nat} (hS : s.Since vm0 k0) (hk : k0 ≤ h.size) (X : Stand p l e R (s.setVm vm0) m args below meth c T locs cells slots) (hx : p.tables.exec = Jvm.exec) (hlk : meth.locks = false) (eT : T.heap = h) {pc : Nat} {Ls : Array Slot} {z z' : Int32} {rest : List Value} {t : FieldType} (hret : meth.sig.returnType = some t) (ht : t = .boolean ∨ t = .byte ∨ t = .char ∨ t = .short) (hd : decode c.code pc = .ok (.ireturn, 1))
    (hc : cells ≤ C) (hs : slots ≤ S) (hz : nar t z = z') (hQ : Q (some (.int z')) h locs) : Win p.tables e below (PostQW s Q C S) (T.setTop (mkF m pc Ls (.int z :: rest))) := by
  subst eT hz
  obtain ⟨fs, hr, hrun, hended, h1, h2, h3, h4⟩ := X.leaveW hS hk (v := some (.int (nar t z))) (fun h => by rw [hret] at h; cases h) hlk
  exact ⟨_, _, retN X hx hret ht hd hr, hrun, hended, _, _, rfl, hQ, ⟨_, rfl⟩, h2, h3, h4.mono hc hs⟩
end Ret
section Steps
variable {tb : Tables} [Ours tb] {e : Env} {below : List Frame} {P : State → Outcome → Prop} {T : State} {m : MethodId} {c : Code} {pc pc' : Nat} {ls : Array Slot} {st : List Value}
theorem s_iloadN {k : Fin 4} {v : Int32} (h : At T m c below) (hx : tb.exec = Jvm.exec) (hd : decode c.code pc = .ok (.iload_n k, 1)) (hp : pc + 1 = pc') (hl : ls[k.val]? = some (.val (.int v))) (w : Win tb e below P (T.setTop (mkF m pc' ls (.int v :: st)))) : Win tb e below P (T.setTop (mkF m pc ls st)) := by
  subst hp; exact Win.go (fun _ k => XS.iloadN h hx rfl hd hl k) w
theorem s_iload {k : Nat} {v : Int32} (h : At T m c below) (hx : tb.exec = Jvm.exec) (hd : decode c.code pc = .ok (.iload k, 2)) (hp : pc + 2 = pc') (hl : ls[k]? = some (.val (.int v))) (w : Win tb e below P (T.setTop (mkF m pc' ls (.int v :: st)))) : Win tb e below P (T.setTop (mkF m pc ls st)) := by
  subst hp; exact Win.go (fun _ k => XS.iload h hx rfl hd hl k) w
theorem s_lloadN {k : Fin 4} {v : Int64} (h : At T m c below) (hx : tb.exec = Jvm.exec) (hd : decode c.code pc = .ok (.lload_n k, 1)) (hp : pc + 1 = pc') (hl : ls[k.val]? = some (.val (.long v))) (w : Win tb e below P (T.setTop (mkF m pc' ls (.long v :: st)))) : Win tb e below P (T.setTop (mkF m pc ls st)) := by
  subst hp; exact Win.go (fun _ k => XS.lloadN h hx rfl hd hl k) w
theorem s_lload {k : Nat} {v : Int64} (h : At T m c below) (hx : tb.exec = Jvm.exec) (hd : decode c.code pc = .ok (.lload k, 2)) (hp : pc + 2 = pc') (hl : ls[k]? = some (.val (.long v))) (w : Win tb e below P (T.setTop (mkF m pc' ls (.long v :: st)))) : Win tb e below P (T.setTop (mkF m pc ls st)) := by
  subst hp; exact Win.go (fun _ k => XS.lload h hx rfl hd hl k) w
theorem s_aloadN {k : Fin 4} {v : Value} (h : At T m c below) (hx : tb.exec = Jvm.exec) (hd : decode c.code pc = .ok (.aload_n k, 1)) (hp : pc + 1 = pc') (hl : ls[k.val]? = some (.val v)) (hv : v.isRef = true) (w : Win tb e below P (T.setTop (mkF m pc' ls (v :: st)))) : Win tb e below P (T.setTop (mkF m pc ls st)) := by
  subst hp; exact Win.go (fun _ k => XS.aloadN h hx rfl hd hl hv k) w
theorem s_aload {k : Nat} {v : Value} (h : At T m c below) (hx : tb.exec = Jvm.exec) (hd : decode c.code pc = .ok (.aload k, 2)) (hp : pc + 2 = pc') (hl : ls[k]? = some (.val v)) (hv : v.isRef = true) (w : Win tb e below P (T.setTop (mkF m pc' ls (v :: st)))) : Win tb e below P (T.setTop (mkF m pc ls st)) := by
  subst hp; exact Win.go (fun _ k => XS.aload h hx rfl hd hl hv k) w
theorem s_iadd {x y : Int32} (h : At T m c below) (hx : tb.exec = Jvm.exec) (hd : decode c.code pc = .ok (.iadd, 1)) (hp : pc + 1 = pc') (w : Win tb e below P (T.setTop (mkF m pc' ls (.int (x + y) :: st)))) : Win tb e below P (T.setTop (mkF m pc ls (.int y :: .int x :: st))) := by
  subst hp; exact Win.go (fun _ k => XS.iadd h hx rfl hd rfl k) w
theorem s_isub {x y : Int32} (h : At T m c below) (hx : tb.exec = Jvm.exec) (hd : decode c.code pc = .ok (.isub, 1)) (hp : pc + 1 = pc') (w : Win tb e below P (T.setTop (mkF m pc' ls (.int (x - y) :: st)))) : Win tb e below P (T.setTop (mkF m pc ls (.int y :: .int x :: st))) := by
  subst hp; exact Win.go (fun _ k => XS.isub h hx rfl hd rfl k) w
theorem s_imul {x y : Int32} (h : At T m c below) (hx : tb.exec = Jvm.exec) (hd : decode c.code pc = .ok (.imul, 1)) (hp : pc + 1 = pc') (w : Win tb e below P (T.setTop (mkF m pc' ls (.int (x * y) :: st)))) : Win tb e below P (T.setTop (mkF m pc ls (.int y :: .int x :: st))) := by
  subst hp; exact Win.go (fun _ k => XS.imul h hx rfl hd rfl k) w
theorem s_iand {x y : Int32} (h : At T m c below) (hx : tb.exec = Jvm.exec) (hd : decode c.code pc = .ok (.iand, 1)) (hp : pc + 1 = pc') (w : Win tb e below P (T.setTop (mkF m pc' ls (.int (x &&& y) :: st)))) : Win tb e below P (T.setTop (mkF m pc ls (.int y :: .int x :: st))) := by
  subst hp; exact Win.go (fun _ k => XS.iand h hx rfl hd rfl k) w
theorem s_ior {x y : Int32} (h : At T m c below) (hx : tb.exec = Jvm.exec) (hd : decode c.code pc = .ok (.ior, 1)) (hp : pc + 1 = pc') (w : Win tb e below P (T.setTop (mkF m pc' ls (.int (x ||| y) :: st)))) : Win tb e below P (T.setTop (mkF m pc ls (.int y :: .int x :: st))) := by
  subst hp; exact Win.go (fun _ k => XS.ior h hx rfl hd rfl k) w
theorem s_ixor {x y : Int32} (h : At T m c below) (hx : tb.exec = Jvm.exec) (hd : decode c.code pc = .ok (.ixor, 1)) (hp : pc + 1 = pc') (w : Win tb e below P (T.setTop (mkF m pc' ls (.int (x ^^^ y) :: st)))) : Win tb e below P (T.setTop (mkF m pc ls (.int y :: .int x :: st))) := by
  subst hp; exact Win.go (fun _ k => XS.ixor h hx rfl hd rfl k) w
theorem s_ladd {x y : Int64} (h : At T m c below) (hx : tb.exec = Jvm.exec) (hd : decode c.code pc = .ok (.ladd, 1)) (hp : pc + 1 = pc') (w : Win tb e below P (T.setTop (mkF m pc' ls (.long (x + y) :: st)))) : Win tb e below P (T.setTop (mkF m pc ls (.long y :: .long x :: st))) := by
  subst hp; exact Win.go (fun _ k => XS.ladd h hx rfl hd rfl k) w
theorem s_lsub {x y : Int64} (h : At T m c below) (hx : tb.exec = Jvm.exec) (hd : decode c.code pc = .ok (.lsub, 1)) (hp : pc + 1 = pc') (w : Win tb e below P (T.setTop (mkF m pc' ls (.long (x - y) :: st)))) : Win tb e below P (T.setTop (mkF m pc ls (.long y :: .long x :: st))) := by
  subst hp; exact Win.go (fun _ k => XS.lsub h hx rfl hd rfl k) w
theorem s_lmul {x y : Int64} (h : At T m c below) (hx : tb.exec = Jvm.exec) (hd : decode c.code pc = .ok (.lmul, 1)) (hp : pc + 1 = pc') (w : Win tb e below P (T.setTop (mkF m pc' ls (.long (x * y) :: st)))) : Win tb e below P (T.setTop (mkF m pc ls (.long y :: .long x :: st))) := by
  subst hp; exact Win.go (fun _ k => XS.lmul h hx rfl hd rfl k) w
theorem s_land {x y : Int64} (h : At T m c below) (hx : tb.exec = Jvm.exec) (hd : decode c.code pc = .ok (.land, 1)) (hp : pc + 1 = pc') (w : Win tb e below P (T.setTop (mkF m pc' ls (.long (x &&& y) :: st)))) : Win tb e below P (T.setTop (mkF m pc ls (.long y :: .long x :: st))) := by
  subst hp; exact Win.go (fun _ k => XS.land h hx rfl hd rfl k) w
theorem s_lor {x y : Int64} (h : At T m c below) (hx : tb.exec = Jvm.exec) (hd : decode c.code pc = .ok (.lor, 1)) (hp : pc + 1 = pc') (w : Win tb e below P (T.setTop (mkF m pc' ls (.long (x ||| y) :: st)))) : Win tb e below P (T.setTop (mkF m pc ls (.long y :: .long x :: st))) := by
  subst hp; exact Win.go (fun _ k => XS.lor h hx rfl hd rfl k) w
theorem s_lxor {x y : Int64} (h : At T m c below) (hx : tb.exec = Jvm.exec) (hd : decode c.code pc = .ok (.lxor, 1)) (hp : pc + 1 = pc') (w : Win tb e below P (T.setTop (mkF m pc' ls (.long (x ^^^ y) :: st)))) : Win tb e below P (T.setTop (mkF m pc ls (.long y :: .long x :: st))) := by
  subst hp; exact Win.go (fun _ k => XS.lxor h hx rfl hd rfl k) w
theorem s_iconst {i : Int} {z : Int32} (h : At T m c below) (hx : tb.exec = Jvm.exec) (hd : decode c.code pc = .ok (.iconst i, 1)) (hp : pc + 1 = pc') (hz : Int32.ofInt i = z) (w : Win tb e below P (T.setTop (mkF m pc' ls (.int z :: st)))) : Win tb e below P (T.setTop (mkF m pc ls st)) := by
  subst hp hz; exact Win.go (fun _ k => XS.iconst h hx rfl hd k) w
theorem s_bipush {i : Int} {z : Int32} (h : At T m c below) (hx : tb.exec = Jvm.exec) (hd : decode c.code pc = .ok (.bipush i, 2)) (hp : pc + 2 = pc') (hz : (Int8.ofInt i).toInt32 = z) (w : Win tb e below P (T.setTop (mkF m pc' ls (.int z :: st)))) : Win tb e below P (T.setTop (mkF m pc ls st)) := by
  subst hp hz; exact Win.go (fun _ k => XS.bipush h hx rfl hd k) w
theorem s_sipush {i : Int} {z : Int32} (h : At T m c below) (hx : tb.exec = Jvm.exec) (hd : decode c.code pc = .ok (.sipush i, 3)) (hp : pc + 3 = pc') (hz : (Int16.ofInt i).toInt32 = z) (w : Win tb e below P (T.setTop (mkF m pc' ls (.int z :: st)))) : Win tb e below P (T.setTop (mkF m pc ls st)) := by
  subst hp hz; exact Win.go (fun _ k => XS.sipush h hx rfl hd k) w
theorem s_lconst {i : Fin 2} {z : Int64} (h : At T m c below) (hx : tb.exec = Jvm.exec) (hd : decode c.code pc = .ok (.lconst i, 1)) (hp : pc + 1 = pc') (hz : Int64.ofNat i = z) (w : Win tb e below P (T.setTop (mkF m pc' ls (.long z :: st)))) : Win tb e below P (T.setTop (mkF m pc ls st)) := by
  subst hp hz; exact Win.go (fun _ k => XS.lconst h hx rfl hd k) w
theorem s_goto {o : Int} (h : At T m c below) (hx : tb.exec = Jvm.exec) (hd : decode c.code pc = .ok (.goto o, 3)) (ho : 0 ≤ (pc : Int) + o) (hp : ((pc : Int) + o).toNat = pc') (w : Win tb e below P (T.setTop (mkF m pc' ls st))) : Win tb e below P (T.setTop (mkF m pc ls st)) := by
  exact Win.go (fun _ k => XS.goto h hx rfl rfl hd ho hp k) w
theorem s_icmpYes {cd : ClassFile.Cond} {o : Int} {x y : Int32} (h : At T m c below) (hx : tb.exec = Jvm.exec) (hd : decode c.code pc = .ok (.if_icmp cd o, 3)) (hc : if_icmp.holds cd x y = true) (ho : 0 ≤ (pc : Int) + o) (hp : ((pc : Int) + o).toNat = pc') (w : Win tb e below P (T.setTop (mkF m pc' ls st))) : Win tb e below P (T.setTop (mkF m pc ls (.int y :: .int x :: st))) := by
  exact Win.go (fun _ k => XS.icmpYes h hx rfl rfl hd rfl hc ho hp k) w
theorem s_icmpNo {cd : ClassFile.Cond} {o : Int} {x y : Int32} (h : At T m c below) (hx : tb.exec = Jvm.exec) (hd : decode c.code pc = .ok (.if_icmp cd o, 3)) (hp : pc + 3 = pc') (hc : if_icmp.holds cd x y = false) (w : Win tb e below P (T.setTop (mkF m pc' ls st))) : Win tb e below P (T.setTop (mkF m pc ls (.int y :: .int x :: st))) := by
  subst hp; exact Win.go (fun _ k => XS.icmpNo h hx rfl hd rfl hc k) w
theorem s_ifYes {cd : ClassFile.Cond} {o : Int} {x : Int32} (h : At T m c below) (hx : tb.exec = Jvm.exec) (hd : decode c.code pc = .ok (.ifCond cd o, 3)) (hc : ifCond.holds cd x = true) (ho : 0 ≤ (pc : Int) + o) (hp : ((pc : Int) + o).toNat = pc') (w : Win tb e below P (T.setTop (mkF m pc' ls st))) : Win tb e below P (T.setTop (mkF m pc ls (.int x :: st))) := by
  exact Win.go (fun _ k => XS.ifYes h hx rfl rfl hd rfl hc ho hp k) w
theorem s_ifNo {cd : ClassFile.Cond} {o : Int} {x : Int32} (h : At T m c below) (hx : tb.exec = Jvm.exec) (hd : decode c.code pc = .ok (.ifCond cd o, 3)) (hp : pc + 3 = pc') (hc : ifCond.holds cd x = false) (w : Win tb e below P (T.setTop (mkF m pc' ls st))) : Win tb e below P (T.setTop (mkF m pc ls (.int x :: st))) := by
  subst hp; exact Win.go (fun _ k => XS.ifNo h hx rfl hd rfl hc k) w
theorem s_lcmp {x y : Int64} (h : At T m c below) (hx : tb.exec = Jvm.exec) (hd : decode c.code pc = .ok (.lcmp, 1)) (hp : pc + 1 = pc') (w : Win tb e below P (T.setTop (mkF m pc' ls (.int (lcmpW x y) :: st)))) : Win tb e below P (T.setTop (mkF m pc ls (.long y :: .long x :: st))) := by
  subst hp; exact Win.go (fun _ k => XS.lcmp h hx rfl hd rfl k) w
theorem s_istore {k : Nat} {x : Int32} {l' : Array Slot} (h : At T m c below) (hx : tb.exec = Jvm.exec) (hd : decode c.code pc = .ok (.istore k, 2)) (hp : pc + 2 = pc') (hl : storeLocals ls k (.int x) = some l') (w : Win tb e below P (T.setTop (mkF m pc' l' st))) : Win tb e below P (T.setTop (mkF m pc ls (.int x :: st))) := by
  subst hp; exact Win.go (fun _ k => XS.istore h hx rfl hd rfl hl k) w
theorem s_istoreN {k : Fin 4} {x : Int32} {l' : Array Slot} (h : At T m c below) (hx : tb.exec = Jvm.exec) (hd : decode c.code pc = .ok (.istore_n k, 1)) (hp : pc + 1 = pc') (hl : storeLocals ls k.val (.int x) = some l') (w : Win tb e below P (T.setTop (mkF m pc' l' st))) : Win tb e below P (T.setTop (mkF m pc ls (.int x :: st))) := by
  subst hp; exact Win.go (fun _ k => XS.istoreN h hx rfl hd rfl hl k) w
theorem s_lstore {k : Nat} {x : Int64} {l' : Array Slot} (h : At T m c below) (hx : tb.exec = Jvm.exec) (hd : decode c.code pc = .ok (.lstore k, 2)) (hp : pc + 2 = pc') (hl : storeLocals ls k (.long x) = some l') (w : Win tb e below P (T.setTop (mkF m pc' l' st))) : Win tb e below P (T.setTop (mkF m pc ls (.long x :: st))) := by
  subst hp; exact Win.go (fun _ k => XS.lstore h hx rfl hd rfl hl k) w
theorem s_lstoreN {k : Fin 4} {x : Int64} {l' : Array Slot} (h : At T m c below) (hx : tb.exec = Jvm.exec) (hd : decode c.code pc = .ok (.lstore_n k, 1)) (hp : pc + 1 = pc') (hl : storeLocals ls k.val (.long x) = some l') (w : Win tb e below P (T.setTop (mkF m pc' l' st))) : Win tb e below P (T.setTop (mkF m pc ls (.long x :: st))) := by
  subst hp; exact Win.go (fun _ k => XS.lstoreN h hx rfl hd rfl hl k) w
theorem s_astore {k : Nat} {x : Value} {l' : Array Slot} (h : At T m c below) (hx : tb.exec = Jvm.exec) (hd : decode c.code pc = .ok (.astore k, 2)) (hp : pc + 2 = pc') (hv : x.isRef = true) (hl : storeLocals ls k x = some l') (w : Win tb e below P (T.setTop (mkF m pc' l' st))) : Win tb e below P (T.setTop (mkF m pc ls (x :: st))) := by
  subst hp; exact Win.go (fun _ k => XS.astore h hx rfl hd rfl hv hl k) w
theorem s_astoreN {k : Fin 4} {x : Value} {l' : Array Slot} (h : At T m c below) (hx : tb.exec = Jvm.exec) (hd : decode c.code pc = .ok (.astore_n k, 1)) (hp : pc + 1 = pc') (hv : x.isRef = true) (hl : storeLocals ls k.val x = some l') (w : Win tb e below P (T.setTop (mkF m pc' l' st))) : Win tb e below P (T.setTop (mkF m pc ls (x :: st))) := by
  subst hp; exact Win.go (fun _ k => XS.astoreN h hx rfl hd rfl hv hl k) w
theorem s_dup {x : Value} (h : At T m c below) (hx : tb.exec = Jvm.exec) (hd : decode c.code pc = .ok (.dup, 1)) (hp : pc + 1 = pc') (hc : x.category = 1) (w : Win tb e below P (T.setTop (mkF m pc' ls (x :: x :: st)))) : Win tb e below P (T.setTop (mkF m pc ls (x :: st))) := by
  subst hp; exact Win.go (fun _ k => XS.dup h hx rfl hd rfl hc k) w
end Steps
/-- an array of ints by its places: place j holds f j -/
def AF (Z : State) (h : Heap) (a : Addr) (ty : FieldType) (n : Nat) (f : Int → Int32) : Prop := ∃ cl : Cell, Arr Z h a cl ty ∧ cl.slots.size = n ∧ ∀ j : Int32, 0 ≤ j.toInt → j.toInt < n → cl.slots[j.toNatClampNeg]? = some (.int (f j.toInt))
section AFs
variable {Z : State} {h h' : Heap} {a b : Addr} {ty : FieldType} {n : Nat} {f : Int → Int32} {ws : List Addr} {sl : Nat} {v : Value}
theorem AF.lt (F : AF Z h a ty n f) : a < h.size := by obtain ⟨c, A, -⟩ := F; exact A.lt
theorem AF.ext (F : AF Z h a ty n f) (E : Ext h h') : AF Z h' a ty n f := by obtain ⟨c, A, r⟩ := F; exact ⟨c, A.ext E, r⟩
theorem AF.other (F : AF Z h b ty n f) (W : Wr h h' a sl v) (q : b ≠ a) : AF Z h' b ty n f := by obtain ⟨c, A, r⟩ := F; exact ⟨c, A.other W q, r⟩
theorem AF.keep (F : AF Z h a ty n f) (K : Keep h h' ws) (q : a ∉ ws) : AF Z h' a ty n f := by obtain ⟨c, A, r⟩ := F; exact ⟨c, ⟨K.2.1 a c A.1 q, A.2⟩, r⟩
theorem AF.inb {c : Cell} {j : Int32} (S : c.slots.size = n) (q : 0 ≤ j.toInt ∧ j.toInt < n) : ¬ (j < 0 ∨ c.slots.size ≤ j.toNatClampNeg) := by
  rw [S, Int32.lt_iff_toInt_lt]; have e0 : (0 : Int32).toInt = 0 := rfl
  simp only [Int32.toNatClampNeg]; omega
def updF (f : Int → Int32) (j : Int) (v : Int32) : Int → Int32 := fun i => if i = j then v else f i
theorem updF_hit (f : Int → Int32) (j : Int) (v : Int32) : updF f j v j = v := if_pos rfl
theorem updF_miss {f : Int → Int32} {i j : Int} {v : Int32} (q : i ≠ j) : updF f j v i = f i := if_neg q
theorem AF.set {cl : Cell} {j v : Int32} (A : Arr Z h a cl ty) (S : cl.slots.size = n) (G : ∀ j : Int32, 0 ≤ j.toInt → j.toInt < n → cl.slots[j.toNatClampNeg]? = some (.int (f j.toInt))) (W : Wr h h' a j.toNatClampNeg (.int v)) (q : 0 ≤ j.toInt ∧ j.toInt < n) : AF Z h' a ty n (updF f j.toInt v) := by
  have e0 : (0 : Int32).toInt = 0 := rfl
  refine ⟨_, A.same W, by rw [sz_set]; exact S, fun k h0 h1 => ?_⟩
  by_cases e : k = j
  · subst e; rw [get_hit (AF.inb S q) rfl, updF_hit]
  · rw [get_miss (by rw [Int32.lt_iff_toInt_lt]; omega) (by rw [Int32.lt_iff_toInt_lt]; omega) e, updF_miss (fun z => e (Int32.toInt_inj.mp z))]; exact G k h0 h1
theorem AF.zero {k : ClassId} {z : Int32} (F : Arv Z h a k ty z [] (.int 0)) (q : z.toNatClampNeg = n) : AF Z h a ty n (fun _ => 0) := by
  obtain ⟨c, A, -, S, -, H, -⟩ := F
  refine ⟨c, A, S.trans q, fun j h0 h1 => ?_⟩
  have e : j.toNatClampNeg = j.toInt.toNat := rfl
  exact H _ (by rw [S, q, e]; omega)
theorem AF.ex {k : ClassId} {z : Int32} {vs : List Value} {dv : Value} (F : Arv Z h a k .byte z vs dv) (q : z.toNatClampNeg = n) : ∃ f, AF Z h a .byte n f := by
  obtain ⟨c, A, -, S, -, H, G⟩ := F
  refine ⟨fun i => match c.slots[i.toNat]? with | some (.int x) => x | _ => 0, c, A, S.trans q, fun j h0 h1 => ?_⟩
  have e : j.toNatClampNeg = j.toInt.toNat := rfl
  have hj : j.toInt.toNat < c.slots.size := by rw [S, q]; omega
  have e1 := H _ hj
  have e2 := G _ hj
  show c.slots[j.toInt.toNat]? = some (.int (match c.slots[j.toInt.toNat]? with | some (.int x) => x | _ => 0))
  cases hv : vs.getD j.toInt.toNat dv <;> rw [hv] at e1 e2 <;> first | (rw [e1]; done) | (exact absurd e2 (by simp [fits]))
/-- a byte array of length z -/
def BA (Z : State) (h : Heap) (a : Addr) (z : Int32) : Prop := ∃ (k : ClassId) (vs : List Value), Arv Z h a k .byte z vs (.int 0)
variable {z : Int32}
theorem BA.lt (F : BA Z h a z) : a < h.size := by obtain ⟨_, _, A⟩ := F; exact A.lt
theorem BA.ext (F : BA Z h a z) (E : Ext h h') : BA Z h' a z := by obtain ⟨k, vs, A⟩ := F; exact ⟨k, vs, A.ext E⟩
theorem BA.other (F : BA Z h b z) (W : Wr h h' a sl v) (q : b ≠ a) : BA Z h' b z := by obtain ⟨k, vs, A⟩ := F; exact ⟨k, vs, A.other W q⟩
theorem BA.keep (F : BA Z h a z) (K : Keep h h' ws) (q : a ∉ ws) : BA Z h' a z := by obtain ⟨k, vs, A⟩ := F; exact ⟨k, vs, A.keep K q⟩
theorem cpBA {p : Program} {l : Launch} {e : Env} {R : Room} {s : State} {m : MethodId} {args : Array Value} {below : List Frame} {meth : Method} {c : Code} {T : State} {locs : List Loc} {cells slots : Nat}
    (X : Stand p l e R s m args below meth c T locs cells slots) (hx : p.tables.exec = Jvm.exec) (hZ : Z.Warmed39 s.vm) {a0 : Array Value} {own : String} {index : Nat} (hown : s.vm.findClass own = some m.cls)
    (w1 : (Cond.methodLink own index Jvm.Stand.acN).before a0 Z = true) (w2 : (Cond.native Jvm.Stand.acN).before a0 Z = true) (w3 : (Cond.static Jvm.Stand.acN).before a0 Z = true) (w4 : (Cond.initialized "java/lang/System").before a0 Z = true) (eT : T.heap = h)
    {z' sp dp nn : Int32} (A : BA Z h a z) (B : BA Z h b z') (h1 : 0 ≤ sp.toInt) (h2 : 0 ≤ dp.toInt) (h3 : 0 ≤ nn.toInt) (h4 : sp.toInt + nn.toInt ≤ z.toInt) (h5 : dp.toInt + nn.toInt ≤ z'.toInt) {n0 : Nat} (N : Fr n0 locs) (ge : n0 ≤ b)
    {g : JFrame} (hg : g.method = m) (hsize : g.locals.size = c.maxLocals) {rest : List Value} (hs : g.stack = .int nn :: .int dp :: .ref b :: .int sp :: .ref a :: rest) (hd : decode c.code g.pc = .ok (.invokestatic index, 3))
    (hf : 1 ≤ R.frames) {W : Nat} (hW : 2 * g.monitorRoom + (rest.map fun v => v.category).sum ≤ W) (hlo : W + (nativeFrameWords "java/lang/System" "arraycopy" 5 + 11) ≤ R.locals) :
    ∃ T' h' L, Stand p l e R s m args below meth c T' L cells slots ∧ T'.heap = h' ∧ Fr n0 L ∧ Keep h h' [b] ∧ BA Z h' b z' ∧
      ∀ target, Steps p.tables e below (T'.setTop { g with pc := g.pc + 3, stack := rest }) target → Steps p.tables e below (T.setTop g) target := by
  have e0 : (0 : Int32).toInt = 0 := rfl
  obtain ⟨k, vs, A⟩ := A
  obtain ⟨k', vd, B⟩ := B
  have B' := B.pad (pad_rep vd (.int 0) z'.toNatClampNeg)
  obtain ⟨T', h', L, X', e', N', K, B2, st⟩ := cpA X hx hZ hown w1 w2 w3 w4 eT A B' (Or.inl ⟨rfl, rfl⟩) (by rw [Int32.lt_iff_toInt_lt]; omega) (by rw [Int32.lt_iff_toInt_lt]; omega) (by rw [Int32.lt_iff_toInt_lt]; omega) (by simp only [Int32.toNatClampNeg]; omega) (by simp only [Int32.toNatClampNeg]; omega) rfl (by simp only [List.length_append, List.length_replicate, Int32.toNatClampNeg]; omega) N ge hg hsize hs hd hf hW hlo
  exact ⟨T', h', L, X', e', N', K, ⟨k', _, B2⟩, st⟩
end AFs
theorem own_selPriv {s : State} {args : Array Value} {y y' : MethodName} (hn : y.cls = y'.cls) (w : (Cond.selects y'.cls y' y').before args s = true) (hpriv : s.PrivateAt y) (hinst : (Cond.instanceMethod y).before args s = true) (hy : y.cls ≠ "java/lang/invoke/MethodHandle" ∧ y.cls ≠ "java/lang/invoke/VarHandle") : (Cond.selects y.cls y y).before args s = true := by
  obtain ⟨c, r, m, h1, -, h3, -, k, h5, h6⟩ := Cond.selects_spec w
  have h7 := findClass_of_methodNamed h3
  cases h1.symm.trans h7
  exact selects_self_of_private (by rw [hn]; exact h7) h5 h6 hpriv hinst hy
theorem own_lremEq (x y : Int64) : x - (x / y) * y = x % y := by
  refine Int64.toInt_inj.mp ?_
  have h1 := rng64 (x % y)
  have e : x.toInt - x.toInt.tdiv y.toInt * y.toInt = (x % y).toInt := by rw [Int64.toInt_mod, Int.tmod_def, Int.mul_comm]
  rw [Int64.toInt_sub, Int64.toInt_mul, Int64.toInt_div, Int.bmod_mul_bmod, Int.sub_bmod_bmod, e]
  exact Int.bmod_eq_of_le_mul_two (by omega) (by omega)
theorem lremM {p : Program} {l : Launch} {e : Env} {R : Room} {s : State} {m : MethodId} {args : Array Value} {below : List Frame} {meth : Method} {c : Code} {T : State} {locs : List Loc} {cells slots : Nat} {g : JFrame} {target : State} (X : Stand p l e R s m args below meth c T locs cells slots) (hx : p.tables.exec = Jvm.exec) (hg : g.method = m) {x y : Int64} {rest : List Value} (hd : decode c.code g.pc = .ok (.lrem, 1)) (hs : g.stack = .long y :: .long x :: rest) (hy : y ≠ 0)
    (hr : Steps p.tables e below (T.setTop { g with pc := g.pc + 1, stack := .long (x % y) :: rest }) target) : Steps p.tables e below (T.setTop g) target :=
  XS.lrem X.here hx hg hd hs hy (by rw [own_lremEq]; exact hr)
/-! comparisons by the numbers -/
theorem tltI {x y : Int32} (h : x.toInt < y.toInt) : if_icmp.holds .lt x y = true ∧ if_icmp.holds .ge x y = false ∧ if_icmp.holds .gt y x = true ∧ if_icmp.holds .le y x = false := tlt (Int32.lt_iff_toInt_lt.mpr h)
theorem fltI {x y : Int32} (h : ¬ x.toInt < y.toInt) : if_icmp.holds .lt x y = false ∧ if_icmp.holds .ge x y = true ∧ if_icmp.holds .gt y x = false ∧ if_icmp.holds .le y x = true := flt (fun q => h (Int32.lt_iff_toInt_lt.mp q))
theorem teqI {x y : Int32} (h : x.toInt = y.toInt) : if_icmp.holds .eq x y = true ∧ if_icmp.holds .ne x y = false := teq (Int32.toInt_inj.mp h)
theorem feqI {x y : Int32} (h : ¬ x.toInt = y.toInt) : if_icmp.holds .eq x y = false ∧ if_icmp.holds .ne x y = true := feq (fun q => h (congrArg _ q))
theorem tltZ {x y : Int32} (h : x.toInt < y.toInt) : (y = 0 → ifCond.holds .lt x = true ∧ ifCond.holds .ge x = false) ∧ (x = 0 → ifCond.holds .gt y = true ∧ ifCond.holds .le y = false) :=
  ⟨fun q => by subst q; exact ⟨(if0 _ _).trans (tltI h).1, (if0 _ _).trans (tltI h).2.1⟩, fun q => by subst q; exact ⟨(if0 _ _).trans (tltI h).2.2.1, (if0 _ _).trans (tltI h).2.2.2⟩⟩
theorem tltL {x y : Int64} (h : x.toInt < y.toInt) : ifCond.holds .lt (lcmpW x y) = true ∧ ifCond.holds .ge (lcmpW x y) = false ∧ ifCond.holds .gt (lcmpW y x) = true ∧ ifCond.holds .le (lcmpW y x) = false :=
  have h' := Int64.lt_iff_toInt_lt.mpr h
  ⟨(if0 _ _).trans (tlt ((lw_lt x y).mpr h')).1, (if0 _ _).trans (tlt ((lw_lt x y).mpr h')).2.1, (if0 _ _).trans (tlt ((lw_gt y x).mpr h')).2.2.1, (if0 _ _).trans (tlt ((lw_gt y x).mpr h')).2.2.2⟩
theorem fltL {x y : Int64} (h : ¬ x.toInt < y.toInt) : ifCond.holds .lt (lcmpW x y) = false ∧ ifCond.holds .ge (lcmpW x y) = true ∧ ifCond.holds .gt (lcmpW y x) = false ∧ ifCond.holds .le (lcmpW y x) = true :=
  have h1 : ¬ lcmpW x y < 0 := fun q => h (Int64.lt_iff_toInt_lt.mp ((lw_lt x y).mp q))
  have h2 : ¬ 0 < lcmpW y x := fun q => h (Int64.lt_iff_toInt_lt.mp ((lw_gt y x).mp q))
  ⟨(if0 _ _).trans (flt h1).1, (if0 _ _).trans (flt h1).2.1, (if0 _ _).trans (flt h2).2.2.1, (if0 _ _).trans (flt h2).2.2.2⟩
theorem teqL {x y : Int64} (h : x.toInt = y.toInt) : ifCond.holds .eq (lcmpW x y) = true ∧ ifCond.holds .ne (lcmpW x y) = false :=
  have h' := (lw_eq x y).mpr (Int64.toInt_inj.mp h)
  ⟨(if0 _ _).trans (teq h').1, (if0 _ _).trans (teq h').2⟩
theorem feqL {x y : Int64} (h : ¬ x.toInt = y.toInt) : ifCond.holds .eq (lcmpW x y) = false ∧ ifCond.holds .ne (lcmpW x y) = true :=
  have h' : ¬ lcmpW x y = 0 := fun q => h (congrArg _ ((lw_eq x y).mp q))
  ⟨(if0 _ _).trans (feq h').1, (if0 _ _).trans (feq h').2⟩
end Jvm.OwnWalk
namespace Jvm.Pilot.@@N@@
open Jvm Jvm.ClassFile Sem Op Lib Jvm.Free Jvm.Stand Jvm.LawKit Jvm.RoadKit Bundle Jvm.OwnWalk Jvm.Pilot.@@N@@.Jvm.D
theorem own_m63 (x : Int64) : (x &&& (9223372036854775807 : Int64)).toInt = x.toInt % 9223372036854775808 := c_maskL x 9223372036854775807 63 (by decide) (by decide)
theorem d5_0 : decode jdk_30_method_1_code 0 = .ok (.aload_n 0, 1) := by decide +kernel
theorem d5_1 : decode jdk_30_method_1_code 1 = .ok (.invokespecial 1, 3) := by decide +kernel
theorem d5_4 : decode jdk_30_method_1_code 4 = .ok (.return_, 1) := by decide +kernel
theorem pn_5 : plainName "java/lang/Record" = true := by first | (simp [plainName, overriddenIn]; done) | decide +kernel
theorem ef_5 (m : MethodId) (a : Addr) : entryFrame m #[(.ref a)] 1 = mkF m 0 #[.val (.ref a)] [] := by first | (simp [entryFrame, mkF, argsToLocals, Value.category]; done) | rfl
def Q5 (Z : State) (a : Addr) (h0 : Heap) (n0 : Nat) (v : Option Value) (h : Heap) (L : List Loc) : Prop := Fr n0 L ∧ h = h0 ∧ v = none
set_option maxRecDepth 65536 in
set_option maxHeartbeats 40000000 in
theorem rm5 (l : Launch) (Z : State) (a0 : Array Value) (hw : ∀ d ∈ tables_1, d.before a0 Z = true) (ws : List Jvm.Cond) (a : Addr) (h0 : Heap) (n0 : Nat) (Zs : n0 ≤ h0.size) :
    MetFree l (⟨"java/lang/Record", "<init>", "()V"⟩ : MethodName) (head1 (Jvm.Cond.code (⟨"java/lang/Record", "<init>", "()V"⟩ : MethodName) jdk_30_method_1_code 1 none :: ws) ({ frames := 1, cells := 0, slots := 0, locals := 12 } : Room)) (fun as' U => as' = #[(.ref a)] ∧ Z.Warmed39 U.vm ∧ U.heap = h0) (fun _ _ _ _ _ => True) (fun _ U o U' => ∃ v L, o = .returned v ∧ Q5 Z a h0 n0 v U'.heap L ∧ FrameEnd U o U' L ({ frames := 1, cells := 0, slots := 0, locals := 12 } : Room).cells ({ frames := 1, cells := 0, slots := 0, locals := 12 } : Room).slots) := by
  refine MetFree.of_bodySF (plainFor_of_name pn_5) hisR ?_
  intro p e s m args below meth c s₁ Bd hml0 hP hK
  obtain ⟨rfl, hZ, hh⟩ := hP
  have hx := Bd.exec
  have hby := Bd.bytes
  have hml : c.maxLocals = 1 := hml0
  have hown : s.vm.findClass "java/lang/Record" = some m.cls := findClass_of_methodNamed Bd.named
  have hnm := (name_of_methodNamed Bd.named Bd.method).1
  have hlk : meth.locks = false := Bd.notSynchronized
  have X0 : Stand p l e ({ frames := 1, cells := 0, slots := 0, locals := 12 } : Room) s m #[(.ref a)] below meth c s₁ [] 0 0 := Stand.of_body Bd
  have e0 : s₁.heap = h0 := by rw [← hh, Bd.state]; rfl
  have Nf := Fr.nil n0
  refine (?_ : Win p.tables e below (PostQ s (Q5 Z a h0 n0) ({ frames := 1, cells := 0, slots := 0, locals := 12 } : Room).cells ({ frames := 1, cells := 0, slots := 0, locals := 12 } : Room).slots) (s₁.setTop (entryFrame m #[(.ref a)] 1)))
  rw [ef_5]
  show Win p.tables e below _ (s₁.setTop (mkF m 0 #[.val (.ref a)] []))
  refine s_aloadN (pc' := 1) X0.here hx (hb hby d5_0) rfl rfl rfl ?_
  obtain ⟨T_1, X_1, e_1, st_1⟩ := initO X0 hx hZ hown (hw _ (List.mem_of_getElem? (i := 22) rfl)) (hw _ (List.mem_of_getElem? (i := 23) rfl)) (hw _ (List.mem_of_getElem? (i := 24) rfl)) e0 (g := (mkF m 1 #[.val (.ref a)] [(.ref a)])) rfl (by rw [hml]; rfl) rfl (hb hby d5_1) (by decide) (W := 0) (by show 2 * 0 + _ ≤ _; exact Nat.le_of_eq rfl) (by decide)
  refine Win.go st_1 ?_
  show Win p.tables e below _ (T_1.setTop (mkF m 4 #[.val (.ref a)] []))
  refine winV X_1 hx hlk e_1 Bd.returns (hb hby d5_4) (by decide) (by decide) ?_
  exact ⟨Nf, rfl, rfl⟩
theorem d4_0 : decode prog_4_method_1_code 0 = .ok (.aload_n 0, 1) := by decide +kernel
theorem d4_1 : decode prog_4_method_1_code 1 = .ok (.invokespecial 1, 3) := by decide +kernel
theorem d4_4 : decode prog_4_method_1_code 4 = .ok (.aload_n 0, 1) := by decide +kernel
theorem d4_5 : decode prog_4_method_1_code 5 = .ok (.lload_n 1, 1) := by decide +kernel
theorem d4_6 : decode prog_4_method_1_code 6 = .ok (.putfield 7, 3) := by decide +kernel
theorem d4_9 : decode prog_4_method_1_code 9 = .ok (.aload_n 0, 1) := by decide +kernel
theorem d4_10 : decode prog_4_method_1_code 10 = .ok (.lload_n 3, 1) := by decide +kernel
theorem d4_11 : decode prog_4_method_1_code 11 = .ok (.putfield 13, 3) := by decide +kernel
theorem d4_14 : decode prog_4_method_1_code 14 = .ok (.return_, 1) := by decide +kernel
theorem pn_4 : plainName "com/example/orbyt/orbyt/IndexRange" = true := by first | (simp [plainName, overriddenIn]; done) | decide +kernel
theorem pd_0 : parseMethodDescriptor "()V" = some ⟨[], none⟩ := by decide +kernel
theorem ef_4 (m : MethodId) (a : Addr) (q1 : Int64) (q2 : Int64) : entryFrame m #[(.ref a), (.long q1), (.long q2)] 5 = mkF m 0 #[.val (.ref a), .val (.long q1), .second, .val (.long q2), .second] [] := by first | (simp [entryFrame, mkF, argsToLocals, Value.category]; done) | rfl
def Q4 (Z : State) (a : Addr) (q1 : Int64) (q2 : Int64) (h0 : Heap) (n0 : Nat) (v : Option Value) (h : Heap) (L : List Loc) : Prop := Fr n0 L ∧ Keep h0 h [a] ∧ Fld Z h a "com/example/orbyt/orbyt/IndexRange" "first" "J" (.long q1) ∧ Fld Z h a "com/example/orbyt/orbyt/IndexRange" "last" "J" (.long q2) ∧ v = none
set_option maxRecDepth 65536 in
set_option maxHeartbeats 40000000 in
theorem rm4 (l : Launch) (Z : State) (a0 : Array Value) (hw : ∀ d ∈ tables_1, d.before a0 Z = true) (ws : List Jvm.Cond) (a : Addr) (q1 : Int64) (q2 : Int64) (h0 : Heap) (n0 : Nat) (Zs : n0 ≤ h0.size) (E_a : Exa Z h0 a "com/example/orbyt/orbyt/IndexRange") (F_first_a : Fld Z h0 a "com/example/orbyt/orbyt/IndexRange" "first" "J" (.long (0 : Int64))) (F_last_a : Fld Z h0 a "com/example/orbyt/orbyt/IndexRange" "last" "J" (.long (0 : Int64))) (g_a : n0 ≤ a) :
    MetFree l (⟨"com/example/orbyt/orbyt/IndexRange", "<init>", "(JJ)V"⟩ : MethodName) (head1 (Jvm.Cond.code (⟨"com/example/orbyt/orbyt/IndexRange", "<init>", "(JJ)V"⟩ : MethodName) prog_4_method_1_code 5 none :: ws) ({ frames := 2, cells := 0, slots := 0, locals := 24 } : Room)) (fun as' U => as' = #[(.ref a), (.long q1), (.long q2)] ∧ Z.Warmed39 U.vm ∧ U.heap = h0) (fun _ _ _ _ _ => True) (fun _ U o U' => ∃ v L, o = .returned v ∧ Q4 Z a q1 q2 h0 n0 v U'.heap L ∧ FrameEnd U o U' L ({ frames := 2, cells := 0, slots := 0, locals := 24 } : Room).cells ({ frames := 2, cells := 0, slots := 0, locals := 24 } : Room).slots) := by
  refine MetFree.of_bodySF (plainFor_of_name pn_4) hisR ?_
  intro p e s m args below meth c s₁ Bd hml0 hP hK
  obtain ⟨rfl, hZ, hh⟩ := hP
  have hx := Bd.exec
  have hby := Bd.bytes
  have hml : c.maxLocals = 5 := hml0
  have hown : s.vm.findClass "com/example/orbyt/orbyt/IndexRange" = some m.cls := findClass_of_methodNamed Bd.named
  have hnm := (name_of_methodNamed Bd.named Bd.method).1
  have hlk : meth.locks = false := Bd.notSynchronized
  have X0 : Stand p l e ({ frames := 2, cells := 0, slots := 0, locals := 24 } : Room) s m #[(.ref a), (.long q1), (.long q2)] below meth c s₁ [] 0 0 := Stand.of_body Bd
  have e0 : s₁.heap = h0 := by rw [← hh, Bd.state]; rfl
  have Nf := Fr.nil n0
  refine (?_ : Win p.tables e below (PostQ s (Q4 Z a q1 q2 h0 n0) ({ frames := 2, cells := 0, slots := 0, locals := 24 } : Room).cells ({ frames := 2, cells := 0, slots := 0, locals := 24 } : Room).slots) (s₁.setTop (entryFrame m #[(.ref a), (.long q1), (.long q2)] 5)))
  rw [ef_4]
  have Kp : Keep h0 h0 [a] := Keep.refl h0 _
  have lt_a : a < h0.size := E_a.lt
  show Win p.tables e below _ (s₁.setTop (mkF m 0 #[.val (.ref a), .val (.long q1), .second, .val (.long q2), .second] []))
  refine s_aloadN (pc' := 1) X0.here hx (hb hby d4_0) rfl rfl rfl ?_
  obtain ⟨_, _, ⟨T_2, L_2, k_2, n_2⟩, -, X_2, ⟨Lc_2, hQ_2, l_2, y_2, z_2⟩, st_2⟩ := X0.specialBack hx (y := (⟨"java/lang/Record", "<init>", "()V"⟩ : MethodName)) rfl hown (mvT hZ (hw _ (List.mem_of_getElem? (i := 17) rfl))) (mvT hZ (hw _ (List.mem_of_getElem? (i := 18) rfl))) (mvT hZ (hw _ (List.mem_of_getElem? (i := 21) rfl))) (by decide) (backOf (W := 0) (rm5 l Z a0 hw [] a h0 n0 Zs ) hZ (hw _ (List.mem_of_getElem? (i := 21) rfl)) (hw _ (List.mem_of_getElem? (i := 20) rfl)) (by decide) (by decide)) (g := (mkF m 1 #[.val (.ref a), .val (.long q1), .second, .val (.long q2), .second] [(.ref a)])) rfl (by rw [hml]; rfl) (Steps.refl _) (a := a) (argsL := []) (rest := []) (lenOf pd_0 rfl) rfl (by show 2 * 0 + _ ≤ _; exact Nat.le_of_eq rfl) (hb hby d4_1) (fun _ _ => ⟨rfl, e0, (by decide : 0 + 0 ≤ _), (by decide : 0 + 0 ≤ _)⟩)
  dsimp only [Pt.U, Pt.locs, Pt.cells, Pt.slots] at X_2 l_2 y_2 z_2 st_2 hQ_2
  subst l_2 y_2 z_2
  obtain ⟨Nq_2, e_2, rfl⟩ := hQ_2
  replace Nf := Fr.app Nf Nq_2
  refine Win.come st_2 ?_
  show Win p.tables e below _ (T_2.setTop (mkF m 4 #[.val (.ref a), .val (.long q1), .second, .val (.long q2), .second] []))
  refine s_aloadN (pc' := 5) X_2.here hx (hb hby d4_4) rfl rfl rfl ?_
  refine s_lloadN (pc' := 6) X_2.here hx (hb hby d4_5) rfl rfl ?_
  obtain ⟨T_3, h_3, X_3, e_3, W_3, st_3⟩ := putF X_2 hx hZ hown (host := "") (Or.inl (hw _ (List.mem_of_getElem? (i := 25) rfl))) Via.refl e_2 F_first_a E_a (Or.inr ⟨(hw _ (List.mem_of_getElem? (i := 26) rfl)), rfl, hnm⟩) (hw _ (List.mem_of_getElem? (i := 13) rfl)) (ty := .long) (by decide) rfl rfl (g := (mkF m 6 #[.val (.ref a), .val (.long q1), .second, .val (.long q2), .second] [(.long q1), (.ref a)])) rfl rfl (hb hby d4_6)
  replace E_a := E_a.wr W_3
  replace F_last_a := F_last_a.other W_3 (Or.inr (slot_ne (Or.inr (hw _ (List.mem_of_getElem? (i := 28) rfl))) (Or.inr (hw _ (List.mem_of_getElem? (i := 26) rfl))) (by decide) (t := .long) (t' := .long) (by decide) (by decide)))
  replace lt_a := Nat.lt_of_lt_of_le lt_a (Keep.of_wr W_3).1
  replace Zs := Nat.le_trans Zs (Keep.of_wr W_3).1
  replace Kp := Kp.wr W_3 (Or.inl (by simp))
  replace F_first_a := F_first_a.same W_3
  replace Nf := Fr.snoc X_3 Nf g_a
  refine Win.go st_3 ?_
  show Win p.tables e below _ (T_3.setTop (mkF m 9 #[.val (.ref a), .val (.long q1), .second, .val (.long q2), .second] []))
  refine s_aloadN (pc' := 10) X_3.here hx (hb hby d4_9) rfl rfl rfl ?_
  refine s_lloadN (pc' := 11) X_3.here hx (hb hby d4_10) rfl rfl ?_
  obtain ⟨T_4, h_4, X_4, e_4, W_4, st_4⟩ := putF X_3 hx hZ hown (host := "") (Or.inl (hw _ (List.mem_of_getElem? (i := 27) rfl))) Via.refl e_3 F_last_a E_a (Or.inr ⟨(hw _ (List.mem_of_getElem? (i := 28) rfl)), rfl, hnm⟩) (hw _ (List.mem_of_getElem? (i := 13) rfl)) (ty := .long) (by decide) rfl rfl (g := (mkF m 11 #[.val (.ref a), .val (.long q1), .second, .val (.long q2), .second] [(.long q2), (.ref a)])) rfl rfl (hb hby d4_11)
  replace E_a := E_a.wr W_4
  replace F_first_a := F_first_a.other W_4 (Or.inr (slot_ne (Or.inr (hw _ (List.mem_of_getElem? (i := 26) rfl))) (Or.inr (hw _ (List.mem_of_getElem? (i := 28) rfl))) (by decide) (t := .long) (t' := .long) (by decide) (by decide)))
  replace lt_a := Nat.lt_of_lt_of_le lt_a (Keep.of_wr W_4).1
  replace Zs := Nat.le_trans Zs (Keep.of_wr W_4).1
  replace Kp := Kp.wr W_4 (Or.inl (by simp))
  replace F_last_a := F_last_a.same W_4
  replace Nf := Fr.snoc X_4 Nf g_a
  refine Win.go st_4 ?_
  show Win p.tables e below _ (T_4.setTop (mkF m 14 #[.val (.ref a), .val (.long q1), .second, .val (.long q2), .second] []))
  refine winV X_4 hx hlk e_4 Bd.returns (hb hby d4_14) (by decide) (by decide) ?_
  exact ⟨Nf, Kp, F_first_a, F_last_a, rfl⟩
theorem d2_0 : decode jdk_29_method_66_code 0 = .ok (.lload_n 0, 1) := by decide +kernel
theorem d2_1 : decode jdk_29_method_66_code 1 = .ok (.lload_n 2, 1) := by decide +kernel
theorem d2_2 : decode jdk_29_method_66_code 2 = .ok (.lcmp, 1) := by decide +kernel
theorem d2_3 : decode jdk_29_method_66_code 3 = .ok (.ifCond .lt 7, 3) := by decide +kernel
theorem d2_6 : decode jdk_29_method_66_code 6 = .ok (.lload_n 0, 1) := by decide +kernel
theorem d2_7 : decode jdk_29_method_66_code 7 = .ok (.goto 4, 3) := by decide +kernel
theorem d2_10 : decode jdk_29_method_66_code 10 = .ok (.lload_n 2, 1) := by decide +kernel
theorem d2_11 : decode jdk_29_method_66_code 11 = .ok (.lreturn, 1) := by decide +kernel
theorem ef_2 (m : MethodId) (a : Int64) (b : Int64) : entryFrame m #[(.long a), (.long b)] 4 = mkF m 0 #[.val (.long a), .second, .val (.long b), .second] [] := by first | (simp [entryFrame, mkF, argsToLocals, Value.category]; done) | rfl
def Q2 (Z : State) (a : Int64) (b : Int64) (h0 : Heap) (n0 : Nat) (v : Option Value) (h : Heap) (L : List Loc) : Prop := Fr n0 L ∧ h = h0 ∧ (∃ z : Int64, v = some (.long z) ∧ (a.toInt ≤ z.toInt ∧ b.toInt ≤ z.toInt ∧ (z.toInt = a.toInt ∨ z.toInt = b.toInt)))
set_option maxRecDepth 65536 in
set_option maxHeartbeats 40000000 in
theorem rm2 (l : Launch) (Z : State) (a0 : Array Value) (hw : ∀ d ∈ tables_1, d.before a0 Z = true) (ws : List Jvm.Cond) (a : Int64) (b : Int64) (h0 : Heap) (n0 : Nat) (Zs : n0 ≤ h0.size) :
    MetFree l (⟨"java/lang/Math", "max", "(JJ)J"⟩ : MethodName) (head1 (Jvm.Cond.code (⟨"java/lang/Math", "max", "(JJ)J"⟩ : MethodName) jdk_29_method_66_code 4 (some .long) :: ws) ({ frames := 0, cells := 0, slots := 0, locals := 0 } : Room)) (fun as' U => as' = #[(.long a), (.long b)] ∧ Z.Warmed39 U.vm ∧ U.heap = h0) (fun _ _ _ _ _ => True) (fun _ U o U' => ∃ v L, o = .returned v ∧ Q2 Z a b h0 n0 v U'.heap L ∧ FrameEnd U o U' L ({ frames := 0, cells := 0, slots := 0, locals := 0 } : Room).cells ({ frames := 0, cells := 0, slots := 0, locals := 0 } : Room).slots) := by
  refine MetFree.of_bodySF (Jvm.Free.JP.mathPlain rfl (by decide +kernel)) hisR ?_
  intro p e s m args below meth c s₁ Bd hml0 hP hK
  obtain ⟨rfl, hZ, hh⟩ := hP
  have hx := Bd.exec
  have hby := Bd.bytes
  have hml : c.maxLocals = 4 := hml0
  have hown : s.vm.findClass "java/lang/Math" = some m.cls := findClass_of_methodNamed Bd.named
  have hnm := (name_of_methodNamed Bd.named Bd.method).1
  have hlk : meth.locks = false := Bd.notSynchronized
  have X0 : Stand p l e ({ frames := 0, cells := 0, slots := 0, locals := 0 } : Room) s m #[(.long a), (.long b)] below meth c s₁ [] 0 0 := Stand.of_body Bd
  have e0 : s₁.heap = h0 := by rw [← hh, Bd.state]; rfl
  have Nf := Fr.nil n0
  refine (?_ : Win p.tables e below (PostQ s (Q2 Z a b h0 n0) ({ frames := 0, cells := 0, slots := 0, locals := 0 } : Room).cells ({ frames := 0, cells := 0, slots := 0, locals := 0 } : Room).slots) (s₁.setTop (entryFrame m #[(.long a), (.long b)] 4)))
  rw [ef_2]
  show Win p.tables e below _ (s₁.setTop (mkF m 0 #[.val (.long a), .second, .val (.long b), .second] []))
  refine s_lloadN (pc' := 1) X0.here hx (hb hby d2_0) rfl rfl ?_
  refine s_lloadN (pc' := 2) X0.here hx (hb hby d2_1) rfl rfl ?_
  refine s_lcmp (pc' := 3) X0.here hx (hb hby d2_2) rfl ?_
  by_cases hc3 : (a).toInt < (b).toInt
  · skip
    refine s_ifYes (pc' := 10) X0.here hx (hb hby d2_3) (tltL (x := a) (y := b) hc3).1 (by decide) (by decide) ?_
    refine s_lloadN (pc' := 11) X0.here hx (hb hby d2_10) rfl rfl ?_
    refine winL X0 hx hlk e0 Bd.returns (hb hby d2_11) (by decide) (by decide) ?_
    exact ⟨Nf, rfl, _, rfl, by omega⟩
  · skip
    refine s_ifNo (pc' := 6) X0.here hx (hb hby d2_3) rfl (fltL (x := a) (y := b) hc3).1 ?_
    refine s_lloadN (pc' := 7) X0.here hx (hb hby d2_6) rfl rfl ?_
    refine s_goto (pc' := 11) X0.here hx (hb hby d2_7) (by decide) (by decide) ?_
    refine winL X0 hx hlk e0 Bd.returns (hb hby d2_11) (by decide) (by decide) ?_
    exact ⟨Nf, rfl, _, rfl, by omega⟩
theorem d3_0 : decode jdk_29_method_70_code 0 = .ok (.lload_n 0, 1) := by decide +kernel
theorem d3_1 : decode jdk_29_method_70_code 1 = .ok (.lload_n 2, 1) := by decide +kernel
theorem d3_2 : decode jdk_29_method_70_code 2 = .ok (.lcmp, 1) := by decide +kernel
theorem d3_3 : decode jdk_29_method_70_code 3 = .ok (.ifCond .gt 7, 3) := by decide +kernel
theorem d3_6 : decode jdk_29_method_70_code 6 = .ok (.lload_n 0, 1) := by decide +kernel
theorem d3_7 : decode jdk_29_method_70_code 7 = .ok (.goto 4, 3) := by decide +kernel
theorem d3_10 : decode jdk_29_method_70_code 10 = .ok (.lload_n 2, 1) := by decide +kernel
theorem d3_11 : decode jdk_29_method_70_code 11 = .ok (.lreturn, 1) := by decide +kernel
theorem ef_3 (m : MethodId) (a : Int64) (b : Int64) : entryFrame m #[(.long a), (.long b)] 4 = mkF m 0 #[.val (.long a), .second, .val (.long b), .second] [] := by first | (simp [entryFrame, mkF, argsToLocals, Value.category]; done) | rfl
def Q3 (Z : State) (a : Int64) (b : Int64) (h0 : Heap) (n0 : Nat) (v : Option Value) (h : Heap) (L : List Loc) : Prop := Fr n0 L ∧ h = h0 ∧ (∃ z : Int64, v = some (.long z) ∧ (z.toInt ≤ a.toInt ∧ z.toInt ≤ b.toInt ∧ (z.toInt = a.toInt ∨ z.toInt = b.toInt)))
set_option maxRecDepth 65536 in
set_option maxHeartbeats 40000000 in
theorem rm3 (l : Launch) (Z : State) (a0 : Array Value) (hw : ∀ d ∈ tables_1, d.before a0 Z = true) (ws : List Jvm.Cond) (a : Int64) (b : Int64) (h0 : Heap) (n0 : Nat) (Zs : n0 ≤ h0.size) :
    MetFree l (⟨"java/lang/Math", "min", "(JJ)J"⟩ : MethodName) (head1 (Jvm.Cond.code (⟨"java/lang/Math", "min", "(JJ)J"⟩ : MethodName) jdk_29_method_70_code 4 (some .long) :: ws) ({ frames := 0, cells := 0, slots := 0, locals := 0 } : Room)) (fun as' U => as' = #[(.long a), (.long b)] ∧ Z.Warmed39 U.vm ∧ U.heap = h0) (fun _ _ _ _ _ => True) (fun _ U o U' => ∃ v L, o = .returned v ∧ Q3 Z a b h0 n0 v U'.heap L ∧ FrameEnd U o U' L ({ frames := 0, cells := 0, slots := 0, locals := 0 } : Room).cells ({ frames := 0, cells := 0, slots := 0, locals := 0 } : Room).slots) := by
  refine MetFree.of_bodySF (Jvm.Free.JP.mathPlain rfl (by decide +kernel)) hisR ?_
  intro p e s m args below meth c s₁ Bd hml0 hP hK
  obtain ⟨rfl, hZ, hh⟩ := hP
  have hx := Bd.exec
  have hby := Bd.bytes
  have hml : c.maxLocals = 4 := hml0
  have hown : s.vm.findClass "java/lang/Math" = some m.cls := findClass_of_methodNamed Bd.named
  have hnm := (name_of_methodNamed Bd.named Bd.method).1
  have hlk : meth.locks = false := Bd.notSynchronized
  have X0 : Stand p l e ({ frames := 0, cells := 0, slots := 0, locals := 0 } : Room) s m #[(.long a), (.long b)] below meth c s₁ [] 0 0 := Stand.of_body Bd
  have e0 : s₁.heap = h0 := by rw [← hh, Bd.state]; rfl
  have Nf := Fr.nil n0
  refine (?_ : Win p.tables e below (PostQ s (Q3 Z a b h0 n0) ({ frames := 0, cells := 0, slots := 0, locals := 0 } : Room).cells ({ frames := 0, cells := 0, slots := 0, locals := 0 } : Room).slots) (s₁.setTop (entryFrame m #[(.long a), (.long b)] 4)))
  rw [ef_3]
  show Win p.tables e below _ (s₁.setTop (mkF m 0 #[.val (.long a), .second, .val (.long b), .second] []))
  refine s_lloadN (pc' := 1) X0.here hx (hb hby d3_0) rfl rfl ?_
  refine s_lloadN (pc' := 2) X0.here hx (hb hby d3_1) rfl rfl ?_
  refine s_lcmp (pc' := 3) X0.here hx (hb hby d3_2) rfl ?_
  by_cases hc3 : (b).toInt < (a).toInt
  · skip
    refine s_ifYes (pc' := 10) X0.here hx (hb hby d3_3) (tltL (x := b) (y := a) hc3).2.2.1 (by decide) (by decide) ?_
    refine s_lloadN (pc' := 11) X0.here hx (hb hby d3_10) rfl rfl ?_
    refine winL X0 hx hlk e0 Bd.returns (hb hby d3_11) (by decide) (by decide) ?_
    exact ⟨Nf, rfl, _, rfl, by omega⟩
  · skip
    refine s_ifNo (pc' := 6) X0.here hx (hb hby d3_3) rfl (fltL (x := b) (y := a) hc3).2.2.1 ?_
    refine s_lloadN (pc' := 7) X0.here hx (hb hby d3_6) rfl rfl ?_
    refine s_goto (pc' := 11) X0.here hx (hb hby d3_7) (by decide) (by decide) ?_
    refine winL X0 hx hlk e0 Bd.returns (hb hby d3_11) (by decide) (by decide) ?_
    exact ⟨Nf, rfl, _, rfl, by omega⟩
theorem d7_0 : decode prog_4_method_8_code 0 = .ok (.aload_n 0, 1) := by decide +kernel
theorem d7_1 : decode prog_4_method_8_code 1 = .ok (.getfield 7, 3) := by decide +kernel
theorem d7_4 : decode prog_4_method_8_code 4 = .ok (.lreturn, 1) := by decide +kernel
theorem ef_7 (m : MethodId) (a : Addr) : entryFrame m #[(.ref a)] 1 = mkF m 0 #[.val (.ref a)] [] := by first | (simp [entryFrame, mkF, argsToLocals, Value.category]; done) | rfl
def Q7 (Z : State) (a : Addr) (u1 : Int64) (h0 : Heap) (n0 : Nat) (v : Option Value) (h : Heap) (L : List Loc) : Prop := Fr n0 L ∧ h = h0 ∧ v = some (.long u1)
set_option maxRecDepth 65536 in
set_option maxHeartbeats 40000000 in
theorem rm7 (l : Launch) (Z : State) (a0 : Array Value) (hw : ∀ d ∈ tables_1, d.before a0 Z = true) (ws : List Jvm.Cond) (a : Addr) (u1 : Int64) (h0 : Heap) (n0 : Nat) (Zs : n0 ≤ h0.size) (F_first_a : Fld Z h0 a "com/example/orbyt/orbyt/IndexRange" "first" "J" (.long u1)) :
    MetFree l (⟨"com/example/orbyt/orbyt/IndexRange", "first", "()J"⟩ : MethodName) (head1 (Jvm.Cond.code (⟨"com/example/orbyt/orbyt/IndexRange", "first", "()J"⟩ : MethodName) prog_4_method_8_code 1 (some .long) :: ws) ({ frames := 0, cells := 0, slots := 0, locals := 0 } : Room)) (fun as' U => as' = #[(.ref a)] ∧ Z.Warmed39 U.vm ∧ U.heap = h0) (fun _ _ _ _ _ => True) (fun _ U o U' => ∃ v L, o = .returned v ∧ Q7 Z a u1 h0 n0 v U'.heap L ∧ FrameEnd U o U' L ({ frames := 0, cells := 0, slots := 0, locals := 0 } : Room).cells ({ frames := 0, cells := 0, slots := 0, locals := 0 } : Room).slots) := by
  refine MetFree.of_bodySF (plainFor_of_name pn_4) hisR ?_
  intro p e s m args below meth c s₁ Bd hml0 hP hK
  obtain ⟨rfl, hZ, hh⟩ := hP
  have hx := Bd.exec
  have hby := Bd.bytes
  have hml : c.maxLocals = 1 := hml0
  have hown : s.vm.findClass "com/example/orbyt/orbyt/IndexRange" = some m.cls := findClass_of_methodNamed Bd.named
  have hnm := (name_of_methodNamed Bd.named Bd.method).1
  have hlk : meth.locks = false := Bd.notSynchronized
  have X0 : Stand p l e ({ frames := 0, cells := 0, slots := 0, locals := 0 } : Room) s m #[(.ref a)] below meth c s₁ [] 0 0 := Stand.of_body Bd
  have e0 : s₁.heap = h0 := by rw [← hh, Bd.state]; rfl
  have Nf := Fr.nil n0
  refine (?_ : Win p.tables e below (PostQ s (Q7 Z a u1 h0 n0) ({ frames := 0, cells := 0, slots := 0, locals := 0 } : Room).cells ({ frames := 0, cells := 0, slots := 0, locals := 0 } : Room).slots) (s₁.setTop (entryFrame m #[(.ref a)] 1)))
  rw [ef_7]
  have lt_a : a < h0.size := F_first_a.lt
  show Win p.tables e below _ (s₁.setTop (mkF m 0 #[.val (.ref a)] []))
  refine s_aloadN (pc' := 1) X0.here hx (hb hby d7_0) rfl rfl rfl ?_
  obtain ⟨T_5, X_5, e_5, st_5⟩ := getF X0 hx hZ hown (host := "") (Or.inl (hw _ (List.mem_of_getElem? (i := 25) rfl))) Via.refl e0 F_first_a (g := (mkF m 1 #[.val (.ref a)] [(.ref a)])) rfl rfl (hb hby d7_1)
  refine Win.go st_5 ?_
  show Win p.tables e below _ (T_5.setTop (mkF m 4 #[.val (.ref a)] [(.long u1)]))
  refine winL X_5 hx hlk e_5 Bd.returns (hb hby d7_4) (by decide) (by decide) ?_
  exact ⟨Nf, rfl, rfl⟩
theorem d8_0 : decode prog_4_method_9_code 0 = .ok (.aload_n 0, 1) := by decide +kernel
theorem d8_1 : decode prog_4_method_9_code 1 = .ok (.getfield 13, 3) := by decide +kernel
theorem d8_4 : decode prog_4_method_9_code 4 = .ok (.lreturn, 1) := by decide +kernel
theorem ef_8 (m : MethodId) (a : Addr) : entryFrame m #[(.ref a)] 1 = mkF m 0 #[.val (.ref a)] [] := by first | (simp [entryFrame, mkF, argsToLocals, Value.category]; done) | rfl
def Q8 (Z : State) (a : Addr) (u1 : Int64) (h0 : Heap) (n0 : Nat) (v : Option Value) (h : Heap) (L : List Loc) : Prop := Fr n0 L ∧ h = h0 ∧ v = some (.long u1)
set_option maxRecDepth 65536 in
set_option maxHeartbeats 40000000 in
theorem rm8 (l : Launch) (Z : State) (a0 : Array Value) (hw : ∀ d ∈ tables_1, d.before a0 Z = true) (ws : List Jvm.Cond) (a : Addr) (u1 : Int64) (h0 : Heap) (n0 : Nat) (Zs : n0 ≤ h0.size) (F_last_a : Fld Z h0 a "com/example/orbyt/orbyt/IndexRange" "last" "J" (.long u1)) :
    MetFree l (⟨"com/example/orbyt/orbyt/IndexRange", "last", "()J"⟩ : MethodName) (head1 (Jvm.Cond.code (⟨"com/example/orbyt/orbyt/IndexRange", "last", "()J"⟩ : MethodName) prog_4_method_9_code 1 (some .long) :: ws) ({ frames := 0, cells := 0, slots := 0, locals := 0 } : Room)) (fun as' U => as' = #[(.ref a)] ∧ Z.Warmed39 U.vm ∧ U.heap = h0) (fun _ _ _ _ _ => True) (fun _ U o U' => ∃ v L, o = .returned v ∧ Q8 Z a u1 h0 n0 v U'.heap L ∧ FrameEnd U o U' L ({ frames := 0, cells := 0, slots := 0, locals := 0 } : Room).cells ({ frames := 0, cells := 0, slots := 0, locals := 0 } : Room).slots) := by
  refine MetFree.of_bodySF (plainFor_of_name pn_4) hisR ?_
  intro p e s m args below meth c s₁ Bd hml0 hP hK
  obtain ⟨rfl, hZ, hh⟩ := hP
  have hx := Bd.exec
  have hby := Bd.bytes
  have hml : c.maxLocals = 1 := hml0
  have hown : s.vm.findClass "com/example/orbyt/orbyt/IndexRange" = some m.cls := findClass_of_methodNamed Bd.named
  have hnm := (name_of_methodNamed Bd.named Bd.method).1
  have hlk : meth.locks = false := Bd.notSynchronized
  have X0 : Stand p l e ({ frames := 0, cells := 0, slots := 0, locals := 0 } : Room) s m #[(.ref a)] below meth c s₁ [] 0 0 := Stand.of_body Bd
  have e0 : s₁.heap = h0 := by rw [← hh, Bd.state]; rfl
  have Nf := Fr.nil n0
  refine (?_ : Win p.tables e below (PostQ s (Q8 Z a u1 h0 n0) ({ frames := 0, cells := 0, slots := 0, locals := 0 } : Room).cells ({ frames := 0, cells := 0, slots := 0, locals := 0 } : Room).slots) (s₁.setTop (entryFrame m #[(.ref a)] 1)))
  rw [ef_8]
  have lt_a : a < h0.size := F_last_a.lt
  show Win p.tables e below _ (s₁.setTop (mkF m 0 #[.val (.ref a)] []))
  refine s_aloadN (pc' := 1) X0.here hx (hb hby d8_0) rfl rfl rfl ?_
  obtain ⟨T_6, X_6, e_6, st_6⟩ := getF X0 hx hZ hown (host := "") (Or.inl (hw _ (List.mem_of_getElem? (i := 27) rfl))) Via.refl e0 F_last_a (g := (mkF m 1 #[.val (.ref a)] [(.ref a)])) rfl rfl (hb hby d8_1)
  refine Win.go st_6 ?_
  show Win p.tables e below _ (T_6.setTop (mkF m 4 #[.val (.ref a)] [(.long u1)]))
  refine winL X_6 hx hlk e_6 Bd.returns (hb hby d8_4) (by decide) (by decide) ?_
  exact ⟨Nf, rfl, rfl⟩
theorem d1_0 : decode prog_4_method_2_code 0 = .ok (.lload_n 0, 1) := by decide +kernel
theorem d1_1 : decode prog_4_method_2_code 1 = .ok (.lconst 0, 1) := by decide +kernel
theorem d1_2 : decode prog_4_method_2_code 2 = .ok (.lcmp, 1) := by decide +kernel
theorem d1_3 : decode prog_4_method_2_code 3 = .ok (.ifCond .ge 27, 3) := by decide +kernel
theorem d1_6 : decode prog_4_method_2_code 6 = .ok (.lload_n 2, 1) := by decide +kernel
theorem d1_7 : decode prog_4_method_2_code 7 = .ok (.lconst 0, 1) := by decide +kernel
theorem d1_8 : decode prog_4_method_2_code 8 = .ok (.lcmp, 1) := by decide +kernel
theorem d1_9 : decode prog_4_method_2_code 9 = .ok (.ifCond .ge 21, 3) := by decide +kernel
theorem d1_12 : decode prog_4_method_2_code 12 = .ok (.lload_n 0, 1) := by decide +kernel
theorem d1_13 : decode prog_4_method_2_code 13 = .ok (.lload_n 2, 1) := by decide +kernel
theorem d1_14 : decode prog_4_method_2_code 14 = .ok (.lcmp, 1) := by decide +kernel
theorem d1_15 : decode prog_4_method_2_code 15 = .ok (.ifCond .le 15, 3) := by decide +kernel
theorem d1_18 : decode prog_4_method_2_code 18 = .ok (.new 8, 3) := by decide +kernel
theorem d1_21 : decode prog_4_method_2_code 21 = .ok (.dup, 1) := by decide +kernel
theorem d1_22 : decode prog_4_method_2_code 22 = .ok (.lconst 0, 1) := by decide +kernel
theorem d1_23 : decode prog_4_method_2_code 23 = .ok (.ldc2_w 16, 3) := by decide +kernel
theorem d1_26 : decode prog_4_method_2_code 26 = .ok (.invokespecial 18, 3) := by decide +kernel
theorem d1_29 : decode prog_4_method_2_code 29 = .ok (.areturn, 1) := by decide +kernel
theorem d1_30 : decode prog_4_method_2_code 30 = .ok (.lconst 0, 1) := by decide +kernel
theorem d1_31 : decode prog_4_method_2_code 31 = .ok (.lload_n 0, 1) := by decide +kernel
theorem d1_32 : decode prog_4_method_2_code 32 = .ok (.lconst 0, 1) := by decide +kernel
theorem d1_33 : decode prog_4_method_2_code 33 = .ok (.lcmp, 1) := by decide +kernel
theorem d1_34 : decode prog_4_method_2_code 34 = .ok (.ifCond .ge 10, 3) := by decide +kernel
theorem d1_37 : decode prog_4_method_2_code 37 = .ok (.lload 4, 2) := by decide +kernel
theorem d1_39 : decode prog_4_method_2_code 39 = .ok (.lload_n 0, 1) := by decide +kernel
theorem d1_40 : decode prog_4_method_2_code 40 = .ok (.ladd, 1) := by decide +kernel
theorem d1_41 : decode prog_4_method_2_code 41 = .ok (.goto 4, 3) := by decide +kernel
theorem d1_44 : decode prog_4_method_2_code 44 = .ok (.lload_n 0, 1) := by decide +kernel
theorem d1_45 : decode prog_4_method_2_code 45 = .ok (.invokestatic 21, 3) := by decide +kernel
theorem d1_48 : decode prog_4_method_2_code 48 = .ok (.lstore 6, 2) := by decide +kernel
theorem d1_50 : decode prog_4_method_2_code 50 = .ok (.lload 4, 2) := by decide +kernel
theorem d1_52 : decode prog_4_method_2_code 52 = .ok (.lconst 1, 1) := by decide +kernel
theorem d1_53 : decode prog_4_method_2_code 53 = .ok (.lsub, 1) := by decide +kernel
theorem d1_54 : decode prog_4_method_2_code 54 = .ok (.lconst 0, 1) := by decide +kernel
theorem d1_55 : decode prog_4_method_2_code 55 = .ok (.lload_n 2, 1) := by decide +kernel
theorem d1_56 : decode prog_4_method_2_code 56 = .ok (.lconst 0, 1) := by decide +kernel
theorem d1_57 : decode prog_4_method_2_code 57 = .ok (.lcmp, 1) := by decide +kernel
theorem d1_58 : decode prog_4_method_2_code 58 = .ok (.ifCond .ge 10, 3) := by decide +kernel
theorem d1_61 : decode prog_4_method_2_code 61 = .ok (.lload 4, 2) := by decide +kernel
theorem d1_63 : decode prog_4_method_2_code 63 = .ok (.lload_n 2, 1) := by decide +kernel
theorem d1_64 : decode prog_4_method_2_code 64 = .ok (.ladd, 1) := by decide +kernel
theorem d1_65 : decode prog_4_method_2_code 65 = .ok (.goto 4, 3) := by decide +kernel
theorem d1_68 : decode prog_4_method_2_code 68 = .ok (.lload_n 2, 1) := by decide +kernel
theorem d1_69 : decode prog_4_method_2_code 69 = .ok (.invokestatic 21, 3) := by decide +kernel
theorem d1_72 : decode prog_4_method_2_code 72 = .ok (.invokestatic 27, 3) := by decide +kernel
theorem d1_75 : decode prog_4_method_2_code 75 = .ok (.lstore 8, 2) := by decide +kernel
theorem d1_77 : decode prog_4_method_2_code 77 = .ok (.new 8, 3) := by decide +kernel
theorem d1_80 : decode prog_4_method_2_code 80 = .ok (.dup, 1) := by decide +kernel
theorem d1_81 : decode prog_4_method_2_code 81 = .ok (.lload 6, 2) := by decide +kernel
theorem d1_83 : decode prog_4_method_2_code 83 = .ok (.lload 8, 2) := by decide +kernel
theorem d1_85 : decode prog_4_method_2_code 85 = .ok (.invokespecial 18, 3) := by decide +kernel
theorem d1_88 : decode prog_4_method_2_code 88 = .ok (.areturn, 1) := by decide +kernel
theorem pd_1 : parseMethodDescriptor "(JJ)V" = some ⟨[.long, .long], none⟩ := by decide +kernel
theorem pd_2 : parseMethodDescriptor "(JJ)J" = some ⟨[.long, .long], some .long⟩ := by decide +kernel
theorem ef_1 (m : MethodId) (q1 : Int64) (q2 : Int64) (q3 : Int64) : entryFrame m #[(.long q1), (.long q2), (.long q3)] 10 = mkF m 0 #[.val (.long q1), .second, .val (.long q2), .second, .val (.long q3), .second, .unset, .unset, .unset, .unset] [] := by first | (simp [entryFrame, mkF, argsToLocals, Value.category]; done) | rfl
def Q1 (Z : State) (q1 : Int64) (q2 : Int64) (q3 : Int64) (h0 : Heap) (n0 : Nat) (v : Option Value) (h : Heap) (L : List Loc) : Prop := Fr n0 L ∧ Keep h0 h [] ∧ (∃ (b : Addr) (u1 : Int64) (u2 : Int64), v = some (.ref b) ∧ n0 ≤ b ∧ h0.size ≤ b ∧ Exa Z h b "com/example/orbyt/orbyt/IndexRange" ∧ Fld Z h b "com/example/orbyt/orbyt/IndexRange" "first" "J" (.long u1) ∧ Fld Z h b "com/example/orbyt/orbyt/IndexRange" "last" "J" (.long u2) ∧ (((q1.toInt < 0 ∧ q2.toInt < 0 ∧ q2.toInt < q1.toInt) → u1.toInt = 0 ∧ u2.toInt = -1) ∧ (¬ (q1.toInt < 0 ∧ q2.toInt < 0 ∧ q2.toInt < q1.toInt) → (0 ≤ u1.toInt ∧ (q1.toInt < 0 → q3.toInt + q1.toInt ≤ u1.toInt ∧ (u1.toInt = 0 ∨ u1.toInt = q3.toInt + q1.toInt)) ∧ (0 ≤ q1.toInt → u1.toInt = q1.toInt) ∧ u2.toInt ≤ q3.toInt - 1 ∧ (q2.toInt < 0 → (u2.toInt ≤ 0 ∨ u2.toInt ≤ q3.toInt + q2.toInt) ∧ (u2.toInt = q3.toInt - 1 ∨ u2.toInt = 0 ∧ q3.toInt + q2.toInt ≤ 0 ∨ u2.toInt = q3.toInt + q2.toInt ∧ 0 ≤ q3.toInt + q2.toInt)) ∧ (0 ≤ q2.toInt → u2.toInt ≤ q2.toInt ∧ (u2.toInt = q3.toInt - 1 ∨ u2.toInt = q2.toInt))))))
set_option maxRecDepth 65536 in
set_option maxHeartbeats 40000000 in
theorem rm1 (l : Launch) (Z : State) (a0 : Array Value) (hw : ∀ d ∈ tables_1, d.before a0 Z = true) (ws : List Jvm.Cond) (q1 : Int64) (q2 : Int64) (q3 : Int64) (h0 : Heap) (n0 : Nat) (Zs : n0 ≤ h0.size) (h3 : 0 ≤ q3.toInt) :
    MetFree l (⟨"com/example/orbyt/orbyt/IndexRange", "of", "(JJJ)Lcom/example/orbyt/orbyt/IndexRange;"⟩ : MethodName) (head1 (Jvm.Cond.code (⟨"com/example/orbyt/orbyt/IndexRange", "of", "(JJJ)Lcom/example/orbyt/orbyt/IndexRange;"⟩ : MethodName) prog_4_method_2_code 10 (some (.object "com/example/orbyt/orbyt/IndexRange")) :: ws) ({ frames := 3, cells := 1, slots := 2, locals := 41 } : Room)) (fun as' U => as' = #[(.long q1), (.long q2), (.long q3)] ∧ Z.Warmed39 U.vm ∧ U.heap = h0) (fun _ _ _ _ _ => True) (fun _ U o U' => ∃ v L, o = .returned v ∧ Q1 Z q1 q2 q3 h0 n0 v U'.heap L ∧ FrameEnd U o U' L ({ frames := 3, cells := 1, slots := 2, locals := 41 } : Room).cells ({ frames := 3, cells := 1, slots := 2, locals := 41 } : Room).slots) := by
  refine MetFree.of_bodySF (plainFor_of_name pn_4) hisR ?_
  intro p e s m args below meth c s₁ Bd hml0 hP hK
  obtain ⟨rfl, hZ, hh⟩ := hP
  have hx := Bd.exec
  have hby := Bd.bytes
  have hml : c.maxLocals = 10 := hml0
  have hown : s.vm.findClass "com/example/orbyt/orbyt/IndexRange" = some m.cls := findClass_of_methodNamed Bd.named
  have hnm := (name_of_methodNamed Bd.named Bd.method).1
  have hlk : meth.locks = false := Bd.notSynchronized
  have X0 : Stand p l e ({ frames := 3, cells := 1, slots := 2, locals := 41 } : Room) s m #[(.long q1), (.long q2), (.long q3)] below meth c s₁ [] 0 0 := Stand.of_body Bd
  have e0 : s₁.heap = h0 := by rw [← hh, Bd.state]; rfl
  have Nf := Fr.nil n0
  refine (?_ : Win p.tables e below (PostQ s (Q1 Z q1 q2 q3 h0 n0) ({ frames := 3, cells := 1, slots := 2, locals := 41 } : Room).cells ({ frames := 3, cells := 1, slots := 2, locals := 41 } : Room).slots) (s₁.setTop (entryFrame m #[(.long q1), (.long q2), (.long q3)] 10)))
  rw [ef_1]
  have Kp : Keep h0 h0 [] := Keep.refl h0 _
  show Win p.tables e below _ (s₁.setTop (mkF m 0 #[.val (.long q1), .second, .val (.long q2), .second, .val (.long q3), .second, .unset, .unset, .unset, .unset] []))
  refine s_lloadN (pc' := 1) X0.here hx (hb hby d1_0) rfl rfl ?_
  refine s_lconst (pc' := 2) (z := (0 : Int64)) X0.here hx (hb hby d1_1) rfl rfl ?_
  refine s_lcmp (pc' := 3) X0.here hx (hb hby d1_2) rfl ?_
  by_cases hc3 : (q1).toInt < (0 : Int)
  · skip
    refine s_ifNo (pc' := 6) X0.here hx (hb hby d1_3) rfl (tltL (x := q1) (y := (0 : Int64)) hc3).2.1 ?_
    refine s_lloadN (pc' := 7) X0.here hx (hb hby d1_6) rfl rfl ?_
    refine s_lconst (pc' := 8) (z := (0 : Int64)) X0.here hx (hb hby d1_7) rfl rfl ?_
    refine s_lcmp (pc' := 9) X0.here hx (hb hby d1_8) rfl ?_
    by_cases hc9 : (q2).toInt < (0 : Int)
    · skip
      refine s_ifNo (pc' := 12) X0.here hx (hb hby d1_9) rfl (tltL (x := q2) (y := (0 : Int64)) hc9).2.1 ?_
      refine s_lloadN (pc' := 13) X0.here hx (hb hby d1_12) rfl rfl ?_
      refine s_lloadN (pc' := 14) X0.here hx (hb hby d1_13) rfl rfl ?_
      refine s_lcmp (pc' := 15) X0.here hx (hb hby d1_14) rfl ?_
      by_cases hc15 : (q2).toInt < (q1).toInt
      · skip
        refine s_ifNo (pc' := 18) X0.here hx (hb hby d1_15) rfl (tltL (x := q2) (y := q1) hc15).2.2.2 ?_
        obtain ⟨T_7, h_7, X_7, e_7, Ex_7, A_7, D_7, -, st_7⟩ := newO X0 hx hZ hown (hw _ (List.mem_of_getElem? (i := 12) rfl)) (hw _ (List.mem_of_getElem? (i := 13) rfl)) (hw _ (List.mem_of_getElem? (i := 3) rfl)) e0 (g := (mkF m 18 #[.val (.long q1), .second, .val (.long q2), .second, .val (.long q3), .second, .unset, .unset, .unset, .unset] [])) rfl (hb hby d1_18) (by decide) (by decide)
        obtain ⟨b_7, g_7⟩ : ∃ z, z = h0.size := ⟨_, rfl⟩
        have g_b_7 : n0 ≤ b_7 := Nat.le_trans Zs (Nat.le_of_eq g_7.symm)
        have sz_b_7 : h0.size ≤ b_7 := Nat.le_trans Kp.1 (Nat.le_of_eq g_7.symm)
        rw [← g_7] at A_7 D_7 st_7
        replace Zs := Nat.le_trans Zs Ex_7.1
        replace Kp := Kp.ext Ex_7
        have E_b_7 := A_7
        have lt_b_7 := E_b_7.lt
        have F_first_b_7 : Fld Z h_7 b_7 "com/example/orbyt/orbyt/IndexRange" "first" "J" (.long (0 : Int64)) := D_7 (Or.inr (hw _ (List.mem_of_getElem? (i := 26) rfl))) (ty := .long) (by decide)
        have F_last_b_7 : Fld Z h_7 b_7 "com/example/orbyt/orbyt/IndexRange" "last" "J" (.long (0 : Int64)) := D_7 (Or.inr (hw _ (List.mem_of_getElem? (i := 28) rfl))) (ty := .long) (by decide)
        refine Win.go st_7 ?_
        show Win p.tables e below _ (T_7.setTop (mkF m 21 #[.val (.long q1), .second, .val (.long q2), .second, .val (.long q3), .second, .unset, .unset, .unset, .unset] [(.ref b_7)]))
        refine s_dup (pc' := 22) X_7.here hx (hb hby d1_21) rfl rfl ?_
        refine s_lconst (pc' := 23) (z := (0 : Int64)) X_7.here hx (hb hby d1_22) rfl rfl ?_
        refine Win.go (fun _ k => X_7.ldc2Long hx hown (mvT hZ (hw _ (List.mem_of_getElem? (i := 39) rfl))) (g := (mkF m 23 #[.val (.long q1), .second, .val (.long q2), .second, .val (.long q3), .second, .unset, .unset, .unset, .unset] [(.long (0 : Int64)), (.ref b_7), (.ref b_7)])) rfl (hb hby d1_23) _ k) ?_
        show Win p.tables e below _ (T_7.setTop (mkF m 26 #[.val (.long q1), .second, .val (.long q2), .second, .val (.long q3), .second, .unset, .unset, .unset, .unset] [(.long (-1 : Int64)), (.long (0 : Int64)), (.ref b_7), (.ref b_7)]))
        obtain ⟨_, _, ⟨T_8, L_8, k_8, n_8⟩, -, X_8, ⟨Lc_8, hQ_8, l_8, y_8, z_8⟩, st_8⟩ := X_7.specialBack hx (y := (⟨"com/example/orbyt/orbyt/IndexRange", "<init>", "(JJ)V"⟩ : MethodName)) rfl hown (mvT hZ (hw _ (List.mem_of_getElem? (i := 14) rfl))) (mvT hZ (hw _ (List.mem_of_getElem? (i := 15) rfl))) (mvT hZ (hw _ (List.mem_of_getElem? (i := 16) rfl))) (by decide) (backOf (W := 1) (rm4 l Z a0 hw [] b_7 (0 : Int64) (-1 : Int64) h_7 n0 Zs E_b_7 F_first_b_7 F_last_b_7 g_b_7) hZ (hw _ (List.mem_of_getElem? (i := 16) rfl)) (hw _ (List.mem_of_getElem? (i := 3) rfl)) (by decide) (by decide)) (g := (mkF m 26 #[.val (.long q1), .second, .val (.long q2), .second, .val (.long q3), .second, .unset, .unset, .unset, .unset] [(.long (-1 : Int64)), (.long (0 : Int64)), (.ref b_7), (.ref b_7)])) rfl (by rw [hml]; rfl) (Steps.refl _) (a := b_7) (argsL := [(.long (0 : Int64)), (.long (-1 : Int64))]) (rest := [(.ref b_7)]) (lenOf pd_1 rfl) rfl (by show 2 * 0 + _ ≤ _; exact Nat.le_of_eq rfl) (hb hby d1_26) (fun _ _ => ⟨rfl, e_7, (by decide : 1 + 0 ≤ _), (by decide : 2 + 0 ≤ _)⟩)
        dsimp only [Pt.U, Pt.locs, Pt.cells, Pt.slots] at X_8 l_8 y_8 z_8 st_8 hQ_8
        subst l_8 y_8 z_8
        obtain ⟨h_8, e_8⟩ : ∃ z, T_8.heap = z := ⟨_, rfl⟩
        rw [e_8] at hQ_8
        obtain ⟨Nq_8, K_8, n_8_F_first_b_7, n_8_F_last_b_7, rfl⟩ := hQ_8
        replace Nf := Fr.app Nf Nq_8
        replace E_b_7 := E_b_7.keep K_8
        clear F_first_b_7
        clear F_last_b_7
        replace lt_b_7 := Nat.lt_of_lt_of_le lt_b_7 K_8.1
        replace Zs := Nat.le_trans Zs K_8.1
        replace Kp := Kp.trans K_8 (allS (Or.inr sz_b_7) all0)
        have F_first_b_7 := n_8_F_first_b_7
        have F_last_b_7 := n_8_F_last_b_7
        refine Win.come st_8 ?_
        show Win p.tables e below _ (T_8.setTop (mkF m 29 #[.val (.long q1), .second, .val (.long q2), .second, .val (.long q3), .second, .unset, .unset, .unset, .unset] [(.ref b_7)]))
        refine winA X_8 hx hlk e_8 Bd.returns rfl rfl (hb hby d1_29) (by decide) (by decide) ?_
        exact ⟨Nf, Kp, b_7, _, _, rfl, g_b_7, sz_b_7, E_b_7, F_first_b_7, F_last_b_7, ⟨fun _ => ⟨rfl, rfl⟩, fun h => by omega⟩⟩
      · skip
        refine s_ifYes (pc' := 30) X0.here hx (hb hby d1_15) (fltL (x := q2) (y := q1) hc15).2.2.2 (by decide) (by decide) ?_
        refine s_lconst (pc' := 31) (z := (0 : Int64)) X0.here hx (hb hby d1_30) rfl rfl ?_
        refine s_lloadN (pc' := 32) X0.here hx (hb hby d1_31) rfl rfl ?_
        refine s_lconst (pc' := 33) (z := (0 : Int64)) X0.here hx (hb hby d1_32) rfl rfl ?_
        refine s_lcmp (pc' := 34) X0.here hx (hb hby d1_33) rfl ?_
        refine s_ifNo (pc' := 37) X0.here hx (hb hby d1_34) rfl (tltL (x := q1) (y := (0 : Int64)) hc3).2.1 ?_
        refine s_lload (pc' := 39) X0.here hx (hb hby d1_37) rfl rfl ?_
        refine s_lloadN (pc' := 40) X0.here hx (hb hby d1_39) rfl rfl ?_
        refine s_ladd (pc' := 41) X0.here hx (hb hby d1_40) rfl ?_
        refine s_goto (pc' := 45) X0.here hx (hb hby d1_41) (by decide) (by decide) ?_
        obtain ⟨_, _, ⟨T_9, L_9, k_9, n_9⟩, -, X_9, ⟨Lc_9, hQ_9, l_9, y_9, z_9⟩, st_9⟩ := Jvm.LawKit.callS X0 hx (y := (⟨"java/lang/Math", "max", "(JJ)J"⟩ : MethodName)) hown (mvT hZ (hw _ (List.mem_of_getElem? (i := 5) rfl))) (mvT hZ (hw _ (List.mem_of_getElem? (i := 6) rfl))) (mvT hZ (hw _ (List.mem_of_getElem? (i := 7) rfl))) (mvT hZ (hw _ (List.mem_of_getElem? (i := 8) rfl))) (by decide) (backOf (W := 0) (rm2 l Z a0 hw [] (0 : Int64) (q3 + q1) h0 n0 Zs ) hZ (hw _ (List.mem_of_getElem? (i := 8) rfl)) (hw _ (List.mem_of_getElem? (i := 7) rfl)) (by decide) (by decide)) (g := (mkF m 45 #[.val (.long q1), .second, .val (.long q2), .second, .val (.long q3), .second, .unset, .unset, .unset, .unset] [(.long (q3 + q1)), (.long (0 : Int64))])) rfl (by rw [hml]; rfl) (argsL := [(.long (0 : Int64)), (.long (q3 + q1))]) (rest := []) (lenOf pd_2 rfl) rfl (by show 2 * 0 + _ ≤ _; exact Nat.le_of_eq rfl) (hb hby d1_45) (fun _ _ => ⟨rfl, e0, (by decide : 0 + 0 ≤ _), (by decide : 0 + 0 ≤ _)⟩)
        dsimp only [Pt.U, Pt.locs, Pt.cells, Pt.slots] at X_9 l_9 y_9 z_9 st_9 hQ_9
        subst l_9 y_9 z_9
        obtain ⟨Nq_9, e_9, r1, rfl, hr1⟩ := hQ_9
        replace Nf := Fr.app Nf Nq_9
        refine Win.go st_9 ?_
        show Win p.tables e below _ (T_9.setTop (mkF m 48 #[.val (.long q1), .second, .val (.long q2), .second, .val (.long q3), .second, .unset, .unset, .unset, .unset] [(.long r1)]))
        refine s_lstore (pc' := 50) (l' := #[.val (.long q1), .second, .val (.long q2), .second, .val (.long q3), .second, .val (.long r1), .second, .unset, .unset]) X_9.here hx (hb hby d1_48) rfl rfl ?_
        refine s_lload (pc' := 52) X_9.here hx (hb hby d1_50) rfl rfl ?_
        refine s_lconst (pc' := 53) (z := (1 : Int64)) X_9.here hx (hb hby d1_52) rfl rfl ?_
        refine s_lsub (pc' := 54) X_9.here hx (hb hby d1_53) rfl ?_
        refine s_lconst (pc' := 55) (z := (0 : Int64)) X_9.here hx (hb hby d1_54) rfl rfl ?_
        refine s_lloadN (pc' := 56) X_9.here hx (hb hby d1_55) rfl rfl ?_
        refine s_lconst (pc' := 57) (z := (0 : Int64)) X_9.here hx (hb hby d1_56) rfl rfl ?_
        refine s_lcmp (pc' := 58) X_9.here hx (hb hby d1_57) rfl ?_
        refine s_ifNo (pc' := 61) X_9.here hx (hb hby d1_58) rfl (tltL (x := q2) (y := (0 : Int64)) hc9).2.1 ?_
        refine s_lload (pc' := 63) X_9.here hx (hb hby d1_61) rfl rfl ?_
        refine s_lloadN (pc' := 64) X_9.here hx (hb hby d1_63) rfl rfl ?_
        refine s_ladd (pc' := 65) X_9.here hx (hb hby d1_64) rfl ?_
        refine s_goto (pc' := 69) X_9.here hx (hb hby d1_65) (by decide) (by decide) ?_
        obtain ⟨_, _, ⟨T_10, L_10, k_10, n_10⟩, -, X_10, ⟨Lc_10, hQ_10, l_10, y_10, z_10⟩, st_10⟩ := Jvm.LawKit.callS X_9 hx (y := (⟨"java/lang/Math", "max", "(JJ)J"⟩ : MethodName)) hown (mvT hZ (hw _ (List.mem_of_getElem? (i := 5) rfl))) (mvT hZ (hw _ (List.mem_of_getElem? (i := 6) rfl))) (mvT hZ (hw _ (List.mem_of_getElem? (i := 7) rfl))) (mvT hZ (hw _ (List.mem_of_getElem? (i := 8) rfl))) (by decide) (backOf (W := 2) (rm2 l Z a0 hw [] (0 : Int64) (q3 + q2) h0 n0 Zs ) hZ (hw _ (List.mem_of_getElem? (i := 8) rfl)) (hw _ (List.mem_of_getElem? (i := 7) rfl)) (by decide) (by decide)) (g := (mkF m 69 #[.val (.long q1), .second, .val (.long q2), .second, .val (.long q3), .second, .val (.long r1), .second, .unset, .unset] [(.long (q3 + q2)), (.long (0 : Int64)), (.long (q3 - (1 : Int64)))])) rfl (by rw [hml]; rfl) (argsL := [(.long (0 : Int64)), (.long (q3 + q2))]) (rest := [(.long (q3 - (1 : Int64)))]) (lenOf pd_2 rfl) rfl (by show 2 * 0 + _ ≤ _; exact Nat.le_of_eq rfl) (hb hby d1_69) (fun _ _ => ⟨rfl, e_9, (by decide : 0 + 0 ≤ _), (by decide : 0 + 0 ≤ _)⟩)
        dsimp only [Pt.U, Pt.locs, Pt.cells, Pt.slots] at X_10 l_10 y_10 z_10 st_10 hQ_10
        subst l_10 y_10 z_10
        obtain ⟨Nq_10, e_10, r2, rfl, hr2⟩ := hQ_10
        replace Nf := Fr.app Nf Nq_10
        refine Win.go st_10 ?_
        show Win p.tables e below _ (T_10.setTop (mkF m 72 #[.val (.long q1), .second, .val (.long q2), .second, .val (.long q3), .second, .val (.long r1), .second, .unset, .unset] [(.long r2), (.long (q3 - (1 : Int64)))]))
        obtain ⟨_, _, ⟨T_11, L_11, k_11, n_11⟩, -, X_11, ⟨Lc_11, hQ_11, l_11, y_11, z_11⟩, st_11⟩ := Jvm.LawKit.callS X_10 hx (y := (⟨"java/lang/Math", "min", "(JJ)J"⟩ : MethodName)) hown (mvT hZ (hw _ (List.mem_of_getElem? (i := 9) rfl))) (mvT hZ (hw _ (List.mem_of_getElem? (i := 10) rfl))) (mvT hZ (hw _ (List.mem_of_getElem? (i := 7) rfl))) (mvT hZ (hw _ (List.mem_of_getElem? (i := 11) rfl))) (by decide) (backOf (W := 0) (rm3 l Z a0 hw [] (q3 - (1 : Int64)) r2 h0 n0 Zs ) hZ (hw _ (List.mem_of_getElem? (i := 11) rfl)) (hw _ (List.mem_of_getElem? (i := 7) rfl)) (by decide) (by decide)) (g := (mkF m 72 #[.val (.long q1), .second, .val (.long q2), .second, .val (.long q3), .second, .val (.long r1), .second, .unset, .unset] [(.long r2), (.long (q3 - (1 : Int64)))])) rfl (by rw [hml]; rfl) (argsL := [(.long (q3 - (1 : Int64))), (.long r2)]) (rest := []) (lenOf pd_2 rfl) rfl (by show 2 * 0 + _ ≤ _; exact Nat.le_of_eq rfl) (hb hby d1_72) (fun _ _ => ⟨rfl, e_10, (by decide : 0 + 0 ≤ _), (by decide : 0 + 0 ≤ _)⟩)
        dsimp only [Pt.U, Pt.locs, Pt.cells, Pt.slots] at X_11 l_11 y_11 z_11 st_11 hQ_11
        subst l_11 y_11 z_11
        obtain ⟨Nq_11, e_11, r3, rfl, hr3⟩ := hQ_11
        replace Nf := Fr.app Nf Nq_11
        refine Win.go st_11 ?_
        show Win p.tables e below _ (T_11.setTop (mkF m 75 #[.val (.long q1), .second, .val (.long q2), .second, .val (.long q3), .second, .val (.long r1), .second, .unset, .unset] [(.long r3)]))
        refine s_lstore (pc' := 77) (l' := #[.val (.long q1), .second, .val (.long q2), .second, .val (.long q3), .second, .val (.long r1), .second, .val (.long r3), .second]) X_11.here hx (hb hby d1_75) rfl rfl ?_
        obtain ⟨T_12, h_12, X_12, e_12, Ex_12, A_12, D_12, -, st_12⟩ := newO X_11 hx hZ hown (hw _ (List.mem_of_getElem? (i := 12) rfl)) (hw _ (List.mem_of_getElem? (i := 13) rfl)) (hw _ (List.mem_of_getElem? (i := 3) rfl)) e_11 (g := (mkF m 77 #[.val (.long q1), .second, .val (.long q2), .second, .val (.long q3), .second, .val (.long r1), .second, .val (.long r3), .second] [])) rfl (hb hby d1_77) (by decide) (by decide)
        obtain ⟨b_12, g_12⟩ : ∃ z, z = h0.size := ⟨_, rfl⟩
        have g_b_12 : n0 ≤ b_12 := Nat.le_trans Zs (Nat.le_of_eq g_12.symm)
        have sz_b_12 : h0.size ≤ b_12 := Nat.le_trans Kp.1 (Nat.le_of_eq g_12.symm)
        rw [← g_12] at A_12 D_12 st_12
        replace Zs := Nat.le_trans Zs Ex_12.1
        replace Kp := Kp.ext Ex_12
        have E_b_12 := A_12
        have lt_b_12 := E_b_12.lt
        have F_first_b_12 : Fld Z h_12 b_12 "com/example/orbyt/orbyt/IndexRange" "first" "J" (.long (0 : Int64)) := D_12 (Or.inr (hw _ (List.mem_of_getElem? (i := 26) rfl))) (ty := .long) (by decide)
        have F_last_b_12 : Fld Z h_12 b_12 "com/example/orbyt/orbyt/IndexRange" "last" "J" (.long (0 : Int64)) := D_12 (Or.inr (hw _ (List.mem_of_getElem? (i := 28) rfl))) (ty := .long) (by decide)
        refine Win.go st_12 ?_
        show Win p.tables e below _ (T_12.setTop (mkF m 80 #[.val (.long q1), .second, .val (.long q2), .second, .val (.long q3), .second, .val (.long r1), .second, .val (.long r3), .second] [(.ref b_12)]))
        refine s_dup (pc' := 81) X_12.here hx (hb hby d1_80) rfl rfl ?_
        refine s_lload (pc' := 83) X_12.here hx (hb hby d1_81) rfl rfl ?_
        refine s_lload (pc' := 85) X_12.here hx (hb hby d1_83) rfl rfl ?_
        obtain ⟨_, _, ⟨T_13, L_13, k_13, n_13⟩, -, X_13, ⟨Lc_13, hQ_13, l_13, y_13, z_13⟩, st_13⟩ := X_12.specialBack hx (y := (⟨"com/example/orbyt/orbyt/IndexRange", "<init>", "(JJ)V"⟩ : MethodName)) rfl hown (mvT hZ (hw _ (List.mem_of_getElem? (i := 14) rfl))) (mvT hZ (hw _ (List.mem_of_getElem? (i := 15) rfl))) (mvT hZ (hw _ (List.mem_of_getElem? (i := 16) rfl))) (by decide) (backOf (W := 1) (rm4 l Z a0 hw [] b_12 r1 r3 h_12 n0 Zs E_b_12 F_first_b_12 F_last_b_12 g_b_12) hZ (hw _ (List.mem_of_getElem? (i := 16) rfl)) (hw _ (List.mem_of_getElem? (i := 3) rfl)) (by decide) (by decide)) (g := (mkF m 85 #[.val (.long q1), .second, .val (.long q2), .second, .val (.long q3), .second, .val (.long r1), .second, .val (.long r3), .second] [(.long r3), (.long r1), (.ref b_12), (.ref b_12)])) rfl (by rw [hml]; rfl) (Steps.refl _) (a := b_12) (argsL := [(.long r1), (.long r3)]) (rest := [(.ref b_12)]) (lenOf pd_1 rfl) rfl (by show 2 * 0 + _ ≤ _; exact Nat.le_of_eq rfl) (hb hby d1_85) (fun _ _ => ⟨rfl, e_12, (by decide : 1 + 0 ≤ _), (by decide : 2 + 0 ≤ _)⟩)
        dsimp only [Pt.U, Pt.locs, Pt.cells, Pt.slots] at X_13 l_13 y_13 z_13 st_13 hQ_13
        subst l_13 y_13 z_13
        obtain ⟨h_13, e_13⟩ : ∃ z, T_13.heap = z := ⟨_, rfl⟩
        rw [e_13] at hQ_13
        obtain ⟨Nq_13, K_13, n_13_F_first_b_12, n_13_F_last_b_12, rfl⟩ := hQ_13
        replace Nf := Fr.app Nf Nq_13
        replace E_b_12 := E_b_12.keep K_13
        clear F_first_b_12
        clear F_last_b_12
        replace lt_b_12 := Nat.lt_of_lt_of_le lt_b_12 K_13.1
        replace Zs := Nat.le_trans Zs K_13.1
        replace Kp := Kp.trans K_13 (allS (Or.inr sz_b_12) all0)
        have F_first_b_12 := n_13_F_first_b_12
        have F_last_b_12 := n_13_F_last_b_12
        refine Win.come st_13 ?_
        show Win p.tables e below _ (T_13.setTop (mkF m 88 #[.val (.long q1), .second, .val (.long q2), .second, .val (.long q3), .second, .val (.long r1), .second, .val (.long r3), .second] [(.ref b_12)]))
        refine winA X_13 hx hlk e_13 Bd.returns rfl rfl (hb hby d1_88) (by decide) (by decide) ?_
        refine ⟨Nf, Kp, b_12, _, _, rfl, g_b_12, sz_b_12, E_b_12, F_first_b_12, F_last_b_12, ?_⟩
        have h1 := c_ladd q3 q1
        have h2 := c_ladd q3 q2
        have h3 := c_lsub q3 1
        have h4 := rng64 (q3 + q1)
        have h5 := rng64 (q3 + q2)
        have h6 := rng64 (q3 - 1)
        have h7 := rng64 q1
        have h8 := rng64 q2
        have h9 := rng64 q3
        have e0 : (0 : Int64).toInt = 0 := rfl
        have e1 : (1 : Int64).toInt = 1 := rfl
        rw [e0] at hr1 hr2
        omega
    · skip
      refine s_ifYes (pc' := 30) X0.here hx (hb hby d1_9) (fltL (x := q2) (y := (0 : Int64)) hc9).2.1 (by decide) (by decide) ?_
      refine s_lconst (pc' := 31) (z := (0 : Int64)) X0.here hx (hb hby d1_30) rfl rfl ?_
      refine s_lloadN (pc' := 32) X0.here hx (hb hby d1_31) rfl rfl ?_
      refine s_lconst (pc' := 33) (z := (0 : Int64)) X0.here hx (hb hby d1_32) rfl rfl ?_
      refine s_lcmp (pc' := 34) X0.here hx (hb hby d1_33) rfl ?_
      refine s_ifNo (pc' := 37) X0.here hx (hb hby d1_34) rfl (tltL (x := q1) (y := (0 : Int64)) hc3).2.1 ?_
      refine s_lload (pc' := 39) X0.here hx (hb hby d1_37) rfl rfl ?_
      refine s_lloadN (pc' := 40) X0.here hx (hb hby d1_39) rfl rfl ?_
      refine s_ladd (pc' := 41) X0.here hx (hb hby d1_40) rfl ?_
      refine s_goto (pc' := 45) X0.here hx (hb hby d1_41) (by decide) (by decide) ?_
      obtain ⟨_, _, ⟨T_14, L_14, k_14, n_14⟩, -, X_14, ⟨Lc_14, hQ_14, l_14, y_14, z_14⟩, st_14⟩ := Jvm.LawKit.callS X0 hx (y := (⟨"java/lang/Math", "max", "(JJ)J"⟩ : MethodName)) hown (mvT hZ (hw _ (List.mem_of_getElem? (i := 5) rfl))) (mvT hZ (hw _ (List.mem_of_getElem? (i := 6) rfl))) (mvT hZ (hw _ (List.mem_of_getElem? (i := 7) rfl))) (mvT hZ (hw _ (List.mem_of_getElem? (i := 8) rfl))) (by decide) (backOf (W := 0) (rm2 l Z a0 hw [] (0 : Int64) (q3 + q1) h0 n0 Zs ) hZ (hw _ (List.mem_of_getElem? (i := 8) rfl)) (hw _ (List.mem_of_getElem? (i := 7) rfl)) (by decide) (by decide)) (g := (mkF m 45 #[.val (.long q1), .second, .val (.long q2), .second, .val (.long q3), .second, .unset, .unset, .unset, .unset] [(.long (q3 + q1)), (.long (0 : Int64))])) rfl (by rw [hml]; rfl) (argsL := [(.long (0 : Int64)), (.long (q3 + q1))]) (rest := []) (lenOf pd_2 rfl) rfl (by show 2 * 0 + _ ≤ _; exact Nat.le_of_eq rfl) (hb hby d1_45) (fun _ _ => ⟨rfl, e0, (by decide : 0 + 0 ≤ _), (by decide : 0 + 0 ≤ _)⟩)
      dsimp only [Pt.U, Pt.locs, Pt.cells, Pt.slots] at X_14 l_14 y_14 z_14 st_14 hQ_14
      subst l_14 y_14 z_14
      obtain ⟨Nq_14, e_14, r1, rfl, hr1⟩ := hQ_14
      replace Nf := Fr.app Nf Nq_14
      refine Win.go st_14 ?_
      show Win p.tables e below _ (T_14.setTop (mkF m 48 #[.val (.long q1), .second, .val (.long q2), .second, .val (.long q3), .second, .unset, .unset, .unset, .unset] [(.long r1)]))
      refine s_lstore (pc' := 50) (l' := #[.val (.long q1), .second, .val (.long q2), .second, .val (.long q3), .second, .val (.long r1), .second, .unset, .unset]) X_14.here hx (hb hby d1_48) rfl rfl ?_
      refine s_lload (pc' := 52) X_14.here hx (hb hby d1_50) rfl rfl ?_
      refine s_lconst (pc' := 53) (z := (1 : Int64)) X_14.here hx (hb hby d1_52) rfl rfl ?_
      refine s_lsub (pc' := 54) X_14.here hx (hb hby d1_53) rfl ?_
      refine s_lconst (pc' := 55) (z := (0 : Int64)) X_14.here hx (hb hby d1_54) rfl rfl ?_
      refine s_lloadN (pc' := 56) X_14.here hx (hb hby d1_55) rfl rfl ?_
      refine s_lconst (pc' := 57) (z := (0 : Int64)) X_14.here hx (hb hby d1_56) rfl rfl ?_
      refine s_lcmp (pc' := 58) X_14.here hx (hb hby d1_57) rfl ?_
      refine s_ifYes (pc' := 68) X_14.here hx (hb hby d1_58) (fltL (x := q2) (y := (0 : Int64)) hc9).2.1 (by decide) (by decide) ?_
      refine s_lloadN (pc' := 69) X_14.here hx (hb hby d1_68) rfl rfl ?_
      obtain ⟨_, _, ⟨T_15, L_15, k_15, n_15⟩, -, X_15, ⟨Lc_15, hQ_15, l_15, y_15, z_15⟩, st_15⟩ := Jvm.LawKit.callS X_14 hx (y := (⟨"java/lang/Math", "max", "(JJ)J"⟩ : MethodName)) hown (mvT hZ (hw _ (List.mem_of_getElem? (i := 5) rfl))) (mvT hZ (hw _ (List.mem_of_getElem? (i := 6) rfl))) (mvT hZ (hw _ (List.mem_of_getElem? (i := 7) rfl))) (mvT hZ (hw _ (List.mem_of_getElem? (i := 8) rfl))) (by decide) (backOf (W := 2) (rm2 l Z a0 hw [] (0 : Int64) q2 h0 n0 Zs ) hZ (hw _ (List.mem_of_getElem? (i := 8) rfl)) (hw _ (List.mem_of_getElem? (i := 7) rfl)) (by decide) (by decide)) (g := (mkF m 69 #[.val (.long q1), .second, .val (.long q2), .second, .val (.long q3), .second, .val (.long r1), .second, .unset, .unset] [(.long q2), (.long (0 : Int64)), (.long (q3 - (1 : Int64)))])) rfl (by rw [hml]; rfl) (argsL := [(.long (0 : Int64)), (.long q2)]) (rest := [(.long (q3 - (1 : Int64)))]) (lenOf pd_2 rfl) rfl (by show 2 * 0 + _ ≤ _; exact Nat.le_of_eq rfl) (hb hby d1_69) (fun _ _ => ⟨rfl, e_14, (by decide : 0 + 0 ≤ _), (by decide : 0 + 0 ≤ _)⟩)
      dsimp only [Pt.U, Pt.locs, Pt.cells, Pt.slots] at X_15 l_15 y_15 z_15 st_15 hQ_15
      subst l_15 y_15 z_15
      obtain ⟨Nq_15, e_15, r2, rfl, hr2⟩ := hQ_15
      replace Nf := Fr.app Nf Nq_15
      refine Win.go st_15 ?_
      show Win p.tables e below _ (T_15.setTop (mkF m 72 #[.val (.long q1), .second, .val (.long q2), .second, .val (.long q3), .second, .val (.long r1), .second, .unset, .unset] [(.long r2), (.long (q3 - (1 : Int64)))]))
      obtain ⟨_, _, ⟨T_16, L_16, k_16, n_16⟩, -, X_16, ⟨Lc_16, hQ_16, l_16, y_16, z_16⟩, st_16⟩ := Jvm.LawKit.callS X_15 hx (y := (⟨"java/lang/Math", "min", "(JJ)J"⟩ : MethodName)) hown (mvT hZ (hw _ (List.mem_of_getElem? (i := 9) rfl))) (mvT hZ (hw _ (List.mem_of_getElem? (i := 10) rfl))) (mvT hZ (hw _ (List.mem_of_getElem? (i := 7) rfl))) (mvT hZ (hw _ (List.mem_of_getElem? (i := 11) rfl))) (by decide) (backOf (W := 0) (rm3 l Z a0 hw [] (q3 - (1 : Int64)) r2 h0 n0 Zs ) hZ (hw _ (List.mem_of_getElem? (i := 11) rfl)) (hw _ (List.mem_of_getElem? (i := 7) rfl)) (by decide) (by decide)) (g := (mkF m 72 #[.val (.long q1), .second, .val (.long q2), .second, .val (.long q3), .second, .val (.long r1), .second, .unset, .unset] [(.long r2), (.long (q3 - (1 : Int64)))])) rfl (by rw [hml]; rfl) (argsL := [(.long (q3 - (1 : Int64))), (.long r2)]) (rest := []) (lenOf pd_2 rfl) rfl (by show 2 * 0 + _ ≤ _; exact Nat.le_of_eq rfl) (hb hby d1_72) (fun _ _ => ⟨rfl, e_15, (by decide : 0 + 0 ≤ _), (by decide : 0 + 0 ≤ _)⟩)
      dsimp only [Pt.U, Pt.locs, Pt.cells, Pt.slots] at X_16 l_16 y_16 z_16 st_16 hQ_16
      subst l_16 y_16 z_16
      obtain ⟨Nq_16, e_16, r3, rfl, hr3⟩ := hQ_16
      replace Nf := Fr.app Nf Nq_16
      refine Win.go st_16 ?_
      show Win p.tables e below _ (T_16.setTop (mkF m 75 #[.val (.long q1), .second, .val (.long q2), .second, .val (.long q3), .second, .val (.long r1), .second, .unset, .unset] [(.long r3)]))
      refine s_lstore (pc' := 77) (l' := #[.val (.long q1), .second, .val (.long q2), .second, .val (.long q3), .second, .val (.long r1), .second, .val (.long r3), .second]) X_16.here hx (hb hby d1_75) rfl rfl ?_
      obtain ⟨T_17, h_17, X_17, e_17, Ex_17, A_17, D_17, -, st_17⟩ := newO X_16 hx hZ hown (hw _ (List.mem_of_getElem? (i := 12) rfl)) (hw _ (List.mem_of_getElem? (i := 13) rfl)) (hw _ (List.mem_of_getElem? (i := 3) rfl)) e_16 (g := (mkF m 77 #[.val (.long q1), .second, .val (.long q2), .second, .val (.long q3), .second, .val (.long r1), .second, .val (.long r3), .second] [])) rfl (hb hby d1_77) (by decide) (by decide)
      obtain ⟨b_17, g_17⟩ : ∃ z, z = h0.size := ⟨_, rfl⟩
      have g_b_17 : n0 ≤ b_17 := Nat.le_trans Zs (Nat.le_of_eq g_17.symm)
      have sz_b_17 : h0.size ≤ b_17 := Nat.le_trans Kp.1 (Nat.le_of_eq g_17.symm)
      rw [← g_17] at A_17 D_17 st_17
      replace Zs := Nat.le_trans Zs Ex_17.1
      replace Kp := Kp.ext Ex_17
      have E_b_17 := A_17
      have lt_b_17 := E_b_17.lt
      have F_first_b_17 : Fld Z h_17 b_17 "com/example/orbyt/orbyt/IndexRange" "first" "J" (.long (0 : Int64)) := D_17 (Or.inr (hw _ (List.mem_of_getElem? (i := 26) rfl))) (ty := .long) (by decide)
      have F_last_b_17 : Fld Z h_17 b_17 "com/example/orbyt/orbyt/IndexRange" "last" "J" (.long (0 : Int64)) := D_17 (Or.inr (hw _ (List.mem_of_getElem? (i := 28) rfl))) (ty := .long) (by decide)
      refine Win.go st_17 ?_
      show Win p.tables e below _ (T_17.setTop (mkF m 80 #[.val (.long q1), .second, .val (.long q2), .second, .val (.long q3), .second, .val (.long r1), .second, .val (.long r3), .second] [(.ref b_17)]))
      refine s_dup (pc' := 81) X_17.here hx (hb hby d1_80) rfl rfl ?_
      refine s_lload (pc' := 83) X_17.here hx (hb hby d1_81) rfl rfl ?_
      refine s_lload (pc' := 85) X_17.here hx (hb hby d1_83) rfl rfl ?_
      obtain ⟨_, _, ⟨T_18, L_18, k_18, n_18⟩, -, X_18, ⟨Lc_18, hQ_18, l_18, y_18, z_18⟩, st_18⟩ := X_17.specialBack hx (y := (⟨"com/example/orbyt/orbyt/IndexRange", "<init>", "(JJ)V"⟩ : MethodName)) rfl hown (mvT hZ (hw _ (List.mem_of_getElem? (i := 14) rfl))) (mvT hZ (hw _ (List.mem_of_getElem? (i := 15) rfl))) (mvT hZ (hw _ (List.mem_of_getElem? (i := 16) rfl))) (by decide) (backOf (W := 1) (rm4 l Z a0 hw [] b_17 r1 r3 h_17 n0 Zs E_b_17 F_first_b_17 F_last_b_17 g_b_17) hZ (hw _ (List.mem_of_getElem? (i := 16) rfl)) (hw _ (List.mem_of_getElem? (i := 3) rfl)) (by decide) (by decide)) (g := (mkF m 85 #[.val (.long q1), .second, .val (.long q2), .second, .val (.long q3), .second, .val (.long r1), .second, .val (.long r3), .second] [(.long r3), (.long r1), (.ref b_17), (.ref b_17)])) rfl (by rw [hml]; rfl) (Steps.refl _) (a := b_17) (argsL := [(.long r1), (.long r3)]) (rest := [(.ref b_17)]) (lenOf pd_1 rfl) rfl (by show 2 * 0 + _ ≤ _; exact Nat.le_of_eq rfl) (hb hby d1_85) (fun _ _ => ⟨rfl, e_17, (by decide : 1 + 0 ≤ _), (by decide : 2 + 0 ≤ _)⟩)
      dsimp only [Pt.U, Pt.locs, Pt.cells, Pt.slots] at X_18 l_18 y_18 z_18 st_18 hQ_18
      subst l_18 y_18 z_18
      obtain ⟨h_18, e_18⟩ : ∃ z, T_18.heap = z := ⟨_, rfl⟩
      rw [e_18] at hQ_18
      obtain ⟨Nq_18, K_18, n_18_F_first_b_17, n_18_F_last_b_17, rfl⟩ := hQ_18
      replace Nf := Fr.app Nf Nq_18
      replace E_b_17 := E_b_17.keep K_18
      clear F_first_b_17
      clear F_last_b_17
      replace lt_b_17 := Nat.lt_of_lt_of_le lt_b_17 K_18.1
      replace Zs := Nat.le_trans Zs K_18.1
      replace Kp := Kp.trans K_18 (allS (Or.inr sz_b_17) all0)
      have F_first_b_17 := n_18_F_first_b_17
      have F_last_b_17 := n_18_F_last_b_17
      refine Win.come st_18 ?_
      show Win p.tables e below _ (T_18.setTop (mkF m 88 #[.val (.long q1), .second, .val (.long q2), .second, .val (.long q3), .second, .val (.long r1), .second, .val (.long r3), .second] [(.ref b_17)]))
      refine winA X_18 hx hlk e_18 Bd.returns rfl rfl (hb hby d1_88) (by decide) (by decide) ?_
      refine ⟨Nf, Kp, b_17, _, _, rfl, g_b_17, sz_b_17, E_b_17, F_first_b_17, F_last_b_17, ?_⟩
      have h1 := c_ladd q3 q1
      have h2 := c_ladd q3 q2
      have h3 := c_lsub q3 1
      have h4 := rng64 (q3 + q1)
      have h5 := rng64 (q3 + q2)
      have h6 := rng64 (q3 - 1)
      have h7 := rng64 q1
      have h8 := rng64 q2
      have h9 := rng64 q3
      have e0 : (0 : Int64).toInt = 0 := rfl
      have e1 : (1 : Int64).toInt = 1 := rfl
      rw [e0] at hr1 hr2
      omega
  · skip
    refine s_ifYes (pc' := 30) X0.here hx (hb hby d1_3) (fltL (x := q1) (y := (0 : Int64)) hc3).2.1 (by decide) (by decide) ?_
    refine s_lconst (pc' := 31) (z := (0 : Int64)) X0.here hx (hb hby d1_30) rfl rfl ?_
    refine s_lloadN (pc' := 32) X0.here hx (hb hby d1_31) rfl rfl ?_
    refine s_lconst (pc' := 33) (z := (0 : Int64)) X0.here hx (hb hby d1_32) rfl rfl ?_
    refine s_lcmp (pc' := 34) X0.here hx (hb hby d1_33) rfl ?_
    refine s_ifYes (pc' := 44) X0.here hx (hb hby d1_34) (fltL (x := q1) (y := (0 : Int64)) hc3).2.1 (by decide) (by decide) ?_
    refine s_lloadN (pc' := 45) X0.here hx (hb hby d1_44) rfl rfl ?_
    obtain ⟨_, _, ⟨T_19, L_19, k_19, n_19⟩, -, X_19, ⟨Lc_19, hQ_19, l_19, y_19, z_19⟩, st_19⟩ := Jvm.LawKit.callS X0 hx (y := (⟨"java/lang/Math", "max", "(JJ)J"⟩ : MethodName)) hown (mvT hZ (hw _ (List.mem_of_getElem? (i := 5) rfl))) (mvT hZ (hw _ (List.mem_of_getElem? (i := 6) rfl))) (mvT hZ (hw _ (List.mem_of_getElem? (i := 7) rfl))) (mvT hZ (hw _ (List.mem_of_getElem? (i := 8) rfl))) (by decide) (backOf (W := 0) (rm2 l Z a0 hw [] (0 : Int64) q1 h0 n0 Zs ) hZ (hw _ (List.mem_of_getElem? (i := 8) rfl)) (hw _ (List.mem_of_getElem? (i := 7) rfl)) (by decide) (by decide)) (g := (mkF m 45 #[.val (.long q1), .second, .val (.long q2), .second, .val (.long q3), .second, .unset, .unset, .unset, .unset] [(.long q1), (.long (0 : Int64))])) rfl (by rw [hml]; rfl) (argsL := [(.long (0 : Int64)), (.long q1)]) (rest := []) (lenOf pd_2 rfl) rfl (by show 2 * 0 + _ ≤ _; exact Nat.le_of_eq rfl) (hb hby d1_45) (fun _ _ => ⟨rfl, e0, (by decide : 0 + 0 ≤ _), (by decide : 0 + 0 ≤ _)⟩)
    dsimp only [Pt.U, Pt.locs, Pt.cells, Pt.slots] at X_19 l_19 y_19 z_19 st_19 hQ_19
    subst l_19 y_19 z_19
    obtain ⟨Nq_19, e_19, r1, rfl, hr1⟩ := hQ_19
    replace Nf := Fr.app Nf Nq_19
    refine Win.go st_19 ?_
    show Win p.tables e below _ (T_19.setTop (mkF m 48 #[.val (.long q1), .second, .val (.long q2), .second, .val (.long q3), .second, .unset, .unset, .unset, .unset] [(.long r1)]))
    refine s_lstore (pc' := 50) (l' := #[.val (.long q1), .second, .val (.long q2), .second, .val (.long q3), .second, .val (.long r1), .second, .unset, .unset]) X_19.here hx (hb hby d1_48) rfl rfl ?_
    refine s_lload (pc' := 52) X_19.here hx (hb hby d1_50) rfl rfl ?_
    refine s_lconst (pc' := 53) (z := (1 : Int64)) X_19.here hx (hb hby d1_52) rfl rfl ?_
    refine s_lsub (pc' := 54) X_19.here hx (hb hby d1_53) rfl ?_
    refine s_lconst (pc' := 55) (z := (0 : Int64)) X_19.here hx (hb hby d1_54) rfl rfl ?_
    refine s_lloadN (pc' := 56) X_19.here hx (hb hby d1_55) rfl rfl ?_
    refine s_lconst (pc' := 57) (z := (0 : Int64)) X_19.here hx (hb hby d1_56) rfl rfl ?_
    refine s_lcmp (pc' := 58) X_19.here hx (hb hby d1_57) rfl ?_
    by_cases hc58 : (q2).toInt < (0 : Int)
    · skip
      refine s_ifNo (pc' := 61) X_19.here hx (hb hby d1_58) rfl (tltL (x := q2) (y := (0 : Int64)) hc58).2.1 ?_
      refine s_lload (pc' := 63) X_19.here hx (hb hby d1_61) rfl rfl ?_
      refine s_lloadN (pc' := 64) X_19.here hx (hb hby d1_63) rfl rfl ?_
      refine s_ladd (pc' := 65) X_19.here hx (hb hby d1_64) rfl ?_
      refine s_goto (pc' := 69) X_19.here hx (hb hby d1_65) (by decide) (by decide) ?_
      obtain ⟨_, _, ⟨T_20, L_20, k_20, n_20⟩, -, X_20, ⟨Lc_20, hQ_20, l_20, y_20, z_20⟩, st_20⟩ := Jvm.LawKit.callS X_19 hx (y := (⟨"java/lang/Math", "max", "(JJ)J"⟩ : MethodName)) hown (mvT hZ (hw _ (List.mem_of_getElem? (i := 5) rfl))) (mvT hZ (hw _ (List.mem_of_getElem? (i := 6) rfl))) (mvT hZ (hw _ (List.mem_of_getElem? (i := 7) rfl))) (mvT hZ (hw _ (List.mem_of_getElem? (i := 8) rfl))) (by decide) (backOf (W := 2) (rm2 l Z a0 hw [] (0 : Int64) (q3 + q2) h0 n0 Zs ) hZ (hw _ (List.mem_of_getElem? (i := 8) rfl)) (hw _ (List.mem_of_getElem? (i := 7) rfl)) (by decide) (by decide)) (g := (mkF m 69 #[.val (.long q1), .second, .val (.long q2), .second, .val (.long q3), .second, .val (.long r1), .second, .unset, .unset] [(.long (q3 + q2)), (.long (0 : Int64)), (.long (q3 - (1 : Int64)))])) rfl (by rw [hml]; rfl) (argsL := [(.long (0 : Int64)), (.long (q3 + q2))]) (rest := [(.long (q3 - (1 : Int64)))]) (lenOf pd_2 rfl) rfl (by show 2 * 0 + _ ≤ _; exact Nat.le_of_eq rfl) (hb hby d1_69) (fun _ _ => ⟨rfl, e_19, (by decide : 0 + 0 ≤ _), (by decide : 0 + 0 ≤ _)⟩)
      dsimp only [Pt.U, Pt.locs, Pt.cells, Pt.slots] at X_20 l_20 y_20 z_20 st_20 hQ_20
      subst l_20 y_20 z_20
      obtain ⟨Nq_20, e_20, r2, rfl, hr2⟩ := hQ_20
      replace Nf := Fr.app Nf Nq_20
      refine Win.go st_20 ?_
      show Win p.tables e below _ (T_20.setTop (mkF m 72 #[.val (.long q1), .second, .val (.long q2), .second, .val (.long q3), .second, .val (.long r1), .second, .unset, .unset] [(.long r2), (.long (q3 - (1 : Int64)))]))
      obtain ⟨_, _, ⟨T_21, L_21, k_21, n_21⟩, -, X_21, ⟨Lc_21, hQ_21, l_21, y_21, z_21⟩, st_21⟩ := Jvm.LawKit.callS X_20 hx (y := (⟨"java/lang/Math", "min", "(JJ)J"⟩ : MethodName)) hown (mvT hZ (hw _ (List.mem_of_getElem? (i := 9) rfl))) (mvT hZ (hw _ (List.mem_of_getElem? (i := 10) rfl))) (mvT hZ (hw _ (List.mem_of_getElem? (i := 7) rfl))) (mvT hZ (hw _ (List.mem_of_getElem? (i := 11) rfl))) (by decide) (backOf (W := 0) (rm3 l Z a0 hw [] (q3 - (1 : Int64)) r2 h0 n0 Zs ) hZ (hw _ (List.mem_of_getElem? (i := 11) rfl)) (hw _ (List.mem_of_getElem? (i := 7) rfl)) (by decide) (by decide)) (g := (mkF m 72 #[.val (.long q1), .second, .val (.long q2), .second, .val (.long q3), .second, .val (.long r1), .second, .unset, .unset] [(.long r2), (.long (q3 - (1 : Int64)))])) rfl (by rw [hml]; rfl) (argsL := [(.long (q3 - (1 : Int64))), (.long r2)]) (rest := []) (lenOf pd_2 rfl) rfl (by show 2 * 0 + _ ≤ _; exact Nat.le_of_eq rfl) (hb hby d1_72) (fun _ _ => ⟨rfl, e_20, (by decide : 0 + 0 ≤ _), (by decide : 0 + 0 ≤ _)⟩)
      dsimp only [Pt.U, Pt.locs, Pt.cells, Pt.slots] at X_21 l_21 y_21 z_21 st_21 hQ_21
      subst l_21 y_21 z_21
      obtain ⟨Nq_21, e_21, r3, rfl, hr3⟩ := hQ_21
      replace Nf := Fr.app Nf Nq_21
      refine Win.go st_21 ?_
      show Win p.tables e below _ (T_21.setTop (mkF m 75 #[.val (.long q1), .second, .val (.long q2), .second, .val (.long q3), .second, .val (.long r1), .second, .unset, .unset] [(.long r3)]))
      refine s_lstore (pc' := 77) (l' := #[.val (.long q1), .second, .val (.long q2), .second, .val (.long q3), .second, .val (.long r1), .second, .val (.long r3), .second]) X_21.here hx (hb hby d1_75) rfl rfl ?_
      obtain ⟨T_22, h_22, X_22, e_22, Ex_22, A_22, D_22, -, st_22⟩ := newO X_21 hx hZ hown (hw _ (List.mem_of_getElem? (i := 12) rfl)) (hw _ (List.mem_of_getElem? (i := 13) rfl)) (hw _ (List.mem_of_getElem? (i := 3) rfl)) e_21 (g := (mkF m 77 #[.val (.long q1), .second, .val (.long q2), .second, .val (.long q3), .second, .val (.long r1), .second, .val (.long r3), .second] [])) rfl (hb hby d1_77) (by decide) (by decide)
      obtain ⟨b_22, g_22⟩ : ∃ z, z = h0.size := ⟨_, rfl⟩
      have g_b_22 : n0 ≤ b_22 := Nat.le_trans Zs (Nat.le_of_eq g_22.symm)
      have sz_b_22 : h0.size ≤ b_22 := Nat.le_trans Kp.1 (Nat.le_of_eq g_22.symm)
      rw [← g_22] at A_22 D_22 st_22
      replace Zs := Nat.le_trans Zs Ex_22.1
      replace Kp := Kp.ext Ex_22
      have E_b_22 := A_22
      have lt_b_22 := E_b_22.lt
      have F_first_b_22 : Fld Z h_22 b_22 "com/example/orbyt/orbyt/IndexRange" "first" "J" (.long (0 : Int64)) := D_22 (Or.inr (hw _ (List.mem_of_getElem? (i := 26) rfl))) (ty := .long) (by decide)
      have F_last_b_22 : Fld Z h_22 b_22 "com/example/orbyt/orbyt/IndexRange" "last" "J" (.long (0 : Int64)) := D_22 (Or.inr (hw _ (List.mem_of_getElem? (i := 28) rfl))) (ty := .long) (by decide)
      refine Win.go st_22 ?_
      show Win p.tables e below _ (T_22.setTop (mkF m 80 #[.val (.long q1), .second, .val (.long q2), .second, .val (.long q3), .second, .val (.long r1), .second, .val (.long r3), .second] [(.ref b_22)]))
      refine s_dup (pc' := 81) X_22.here hx (hb hby d1_80) rfl rfl ?_
      refine s_lload (pc' := 83) X_22.here hx (hb hby d1_81) rfl rfl ?_
      refine s_lload (pc' := 85) X_22.here hx (hb hby d1_83) rfl rfl ?_
      obtain ⟨_, _, ⟨T_23, L_23, k_23, n_23⟩, -, X_23, ⟨Lc_23, hQ_23, l_23, y_23, z_23⟩, st_23⟩ := X_22.specialBack hx (y := (⟨"com/example/orbyt/orbyt/IndexRange", "<init>", "(JJ)V"⟩ : MethodName)) rfl hown (mvT hZ (hw _ (List.mem_of_getElem? (i := 14) rfl))) (mvT hZ (hw _ (List.mem_of_getElem? (i := 15) rfl))) (mvT hZ (hw _ (List.mem_of_getElem? (i := 16) rfl))) (by decide) (backOf (W := 1) (rm4 l Z a0 hw [] b_22 r1 r3 h_22 n0 Zs E_b_22 F_first_b_22 F_last_b_22 g_b_22) hZ (hw _ (List.mem_of_getElem? (i := 16) rfl)) (hw _ (List.mem_of_getElem? (i := 3) rfl)) (by decide) (by decide)) (g := (mkF m 85 #[.val (.long q1), .second, .val (.long q2), .second, .val (.long q3), .second, .val (.long r1), .second, .val (.long r3), .second] [(.long r3), (.long r1), (.ref b_22), (.ref b_22)])) rfl (by rw [hml]; rfl) (Steps.refl _) (a := b_22) (argsL := [(.long r1), (.long r3)]) (rest := [(.ref b_22)]) (lenOf pd_1 rfl) rfl (by show 2 * 0 + _ ≤ _; exact Nat.le_of_eq rfl) (hb hby d1_85) (fun _ _ => ⟨rfl, e_22, (by decide : 1 + 0 ≤ _), (by decide : 2 + 0 ≤ _)⟩)
      dsimp only [Pt.U, Pt.locs, Pt.cells, Pt.slots] at X_23 l_23 y_23 z_23 st_23 hQ_23
      subst l_23 y_23 z_23
      obtain ⟨h_23, e_23⟩ : ∃ z, T_23.heap = z := ⟨_, rfl⟩
      rw [e_23] at hQ_23
      obtain ⟨Nq_23, K_23, n_23_F_first_b_22, n_23_F_last_b_22, rfl⟩ := hQ_23
      replace Nf := Fr.app Nf Nq_23
      replace E_b_22 := E_b_22.keep K_23
      clear F_first_b_22
      clear F_last_b_22
      replace lt_b_22 := Nat.lt_of_lt_of_le lt_b_22 K_23.1
      replace Zs := Nat.le_trans Zs K_23.1
      replace Kp := Kp.trans K_23 (allS (Or.inr sz_b_22) all0)
      have F_first_b_22 := n_23_F_first_b_22
      have F_last_b_22 := n_23_F_last_b_22
      refine Win.come st_23 ?_
      show Win p.tables e below _ (T_23.setTop (mkF m 88 #[.val (.long q1), .second, .val (.long q2), .second, .val (.long q3), .second, .val (.long r1), .second, .val (.long r3), .second] [(.ref b_22)]))
      refine winA X_23 hx hlk e_23 Bd.returns rfl rfl (hb hby d1_88) (by decide) (by decide) ?_
      refine ⟨Nf, Kp, b_22, _, _, rfl, g_b_22, sz_b_22, E_b_22, F_first_b_22, F_last_b_22, ?_⟩
      have h1 := c_ladd q3 q1
      have h2 := c_ladd q3 q2
      have h3 := c_lsub q3 1
      have h4 := rng64 (q3 + q1)
      have h5 := rng64 (q3 + q2)
      have h6 := rng64 (q3 - 1)
      have h7 := rng64 q1
      have h8 := rng64 q2
      have h9 := rng64 q3
      have e0 : (0 : Int64).toInt = 0 := rfl
      have e1 : (1 : Int64).toInt = 1 := rfl
      rw [e0] at hr1 hr2
      omega
    · skip
      refine s_ifYes (pc' := 68) X_19.here hx (hb hby d1_58) (fltL (x := q2) (y := (0 : Int64)) hc58).2.1 (by decide) (by decide) ?_
      refine s_lloadN (pc' := 69) X_19.here hx (hb hby d1_68) rfl rfl ?_
      obtain ⟨_, _, ⟨T_24, L_24, k_24, n_24⟩, -, X_24, ⟨Lc_24, hQ_24, l_24, y_24, z_24⟩, st_24⟩ := Jvm.LawKit.callS X_19 hx (y := (⟨"java/lang/Math", "max", "(JJ)J"⟩ : MethodName)) hown (mvT hZ (hw _ (List.mem_of_getElem? (i := 5) rfl))) (mvT hZ (hw _ (List.mem_of_getElem? (i := 6) rfl))) (mvT hZ (hw _ (List.mem_of_getElem? (i := 7) rfl))) (mvT hZ (hw _ (List.mem_of_getElem? (i := 8) rfl))) (by decide) (backOf (W := 2) (rm2 l Z a0 hw [] (0 : Int64) q2 h0 n0 Zs ) hZ (hw _ (List.mem_of_getElem? (i := 8) rfl)) (hw _ (List.mem_of_getElem? (i := 7) rfl)) (by decide) (by decide)) (g := (mkF m 69 #[.val (.long q1), .second, .val (.long q2), .second, .val (.long q3), .second, .val (.long r1), .second, .unset, .unset] [(.long q2), (.long (0 : Int64)), (.long (q3 - (1 : Int64)))])) rfl (by rw [hml]; rfl) (argsL := [(.long (0 : Int64)), (.long q2)]) (rest := [(.long (q3 - (1 : Int64)))]) (lenOf pd_2 rfl) rfl (by show 2 * 0 + _ ≤ _; exact Nat.le_of_eq rfl) (hb hby d1_69) (fun _ _ => ⟨rfl, e_19, (by decide : 0 + 0 ≤ _), (by decide : 0 + 0 ≤ _)⟩)
      dsimp only [Pt.U, Pt.locs, Pt.cells, Pt.slots] at X_24 l_24 y_24 z_24 st_24 hQ_24
      subst l_24 y_24 z_24
      obtain ⟨Nq_24, e_24, r2, rfl, hr2⟩ := hQ_24
      replace Nf := Fr.app Nf Nq_24
      refine Win.go st_24 ?_
      show Win p.tables e below _ (T_24.setTop (mkF m 72 #[.val (.long q1), .second, .val (.long q2), .second, .val (.long q3), .second, .val (.long r1), .second, .unset, .unset] [(.long r2), (.long (q3 - (1 : Int64)))]))
      obtain ⟨_, _, ⟨T_25, L_25, k_25, n_25⟩, -, X_25, ⟨Lc_25, hQ_25, l_25, y_25, z_25⟩, st_25⟩ := Jvm.LawKit.callS X_24 hx (y := (⟨"java/lang/Math", "min", "(JJ)J"⟩ : MethodName)) hown (mvT hZ (hw _ (List.mem_of_getElem? (i := 9) rfl))) (mvT hZ (hw _ (List.mem_of_getElem? (i := 10) rfl))) (mvT hZ (hw _ (List.mem_of_getElem? (i := 7) rfl))) (mvT hZ (hw _ (List.mem_of_getElem? (i := 11) rfl))) (by decide) (backOf (W := 0) (rm3 l Z a0 hw [] (q3 - (1 : Int64)) r2 h0 n0 Zs ) hZ (hw _ (List.mem_of_getElem? (i := 11) rfl)) (hw _ (List.mem_of_getElem? (i := 7) rfl)) (by decide) (by decide)) (g := (mkF m 72 #[.val (.long q1), .second, .val (.long q2), .second, .val (.long q3), .second, .val (.long r1), .second, .unset, .unset] [(.long r2), (.long (q3 - (1 : Int64)))])) rfl (by rw [hml]; rfl) (argsL := [(.long (q3 - (1 : Int64))), (.long r2)]) (rest := []) (lenOf pd_2 rfl) rfl (by show 2 * 0 + _ ≤ _; exact Nat.le_of_eq rfl) (hb hby d1_72) (fun _ _ => ⟨rfl, e_24, (by decide : 0 + 0 ≤ _), (by decide : 0 + 0 ≤ _)⟩)
      dsimp only [Pt.U, Pt.locs, Pt.cells, Pt.slots] at X_25 l_25 y_25 z_25 st_25 hQ_25
      subst l_25 y_25 z_25
      obtain ⟨Nq_25, e_25, r3, rfl, hr3⟩ := hQ_25
      replace Nf := Fr.app Nf Nq_25
      refine Win.go st_25 ?_
      show Win p.tables e below _ (T_25.setTop (mkF m 75 #[.val (.long q1), .second, .val (.long q2), .second, .val (.long q3), .second, .val (.long r1), .second, .unset, .unset] [(.long r3)]))
      refine s_lstore (pc' := 77) (l' := #[.val (.long q1), .second, .val (.long q2), .second, .val (.long q3), .second, .val (.long r1), .second, .val (.long r3), .second]) X_25.here hx (hb hby d1_75) rfl rfl ?_
      obtain ⟨T_26, h_26, X_26, e_26, Ex_26, A_26, D_26, -, st_26⟩ := newO X_25 hx hZ hown (hw _ (List.mem_of_getElem? (i := 12) rfl)) (hw _ (List.mem_of_getElem? (i := 13) rfl)) (hw _ (List.mem_of_getElem? (i := 3) rfl)) e_25 (g := (mkF m 77 #[.val (.long q1), .second, .val (.long q2), .second, .val (.long q3), .second, .val (.long r1), .second, .val (.long r3), .second] [])) rfl (hb hby d1_77) (by decide) (by decide)
      obtain ⟨b_26, g_26⟩ : ∃ z, z = h0.size := ⟨_, rfl⟩
      have g_b_26 : n0 ≤ b_26 := Nat.le_trans Zs (Nat.le_of_eq g_26.symm)
      have sz_b_26 : h0.size ≤ b_26 := Nat.le_trans Kp.1 (Nat.le_of_eq g_26.symm)
      rw [← g_26] at A_26 D_26 st_26
      replace Zs := Nat.le_trans Zs Ex_26.1
      replace Kp := Kp.ext Ex_26
      have E_b_26 := A_26
      have lt_b_26 := E_b_26.lt
      have F_first_b_26 : Fld Z h_26 b_26 "com/example/orbyt/orbyt/IndexRange" "first" "J" (.long (0 : Int64)) := D_26 (Or.inr (hw _ (List.mem_of_getElem? (i := 26) rfl))) (ty := .long) (by decide)
      have F_last_b_26 : Fld Z h_26 b_26 "com/example/orbyt/orbyt/IndexRange" "last" "J" (.long (0 : Int64)) := D_26 (Or.inr (hw _ (List.mem_of_getElem? (i := 28) rfl))) (ty := .long) (by decide)
      refine Win.go st_26 ?_
      show Win p.tables e below _ (T_26.setTop (mkF m 80 #[.val (.long q1), .second, .val (.long q2), .second, .val (.long q3), .second, .val (.long r1), .second, .val (.long r3), .second] [(.ref b_26)]))
      refine s_dup (pc' := 81) X_26.here hx (hb hby d1_80) rfl rfl ?_
      refine s_lload (pc' := 83) X_26.here hx (hb hby d1_81) rfl rfl ?_
      refine s_lload (pc' := 85) X_26.here hx (hb hby d1_83) rfl rfl ?_
      obtain ⟨_, _, ⟨T_27, L_27, k_27, n_27⟩, -, X_27, ⟨Lc_27, hQ_27, l_27, y_27, z_27⟩, st_27⟩ := X_26.specialBack hx (y := (⟨"com/example/orbyt/orbyt/IndexRange", "<init>", "(JJ)V"⟩ : MethodName)) rfl hown (mvT hZ (hw _ (List.mem_of_getElem? (i := 14) rfl))) (mvT hZ (hw _ (List.mem_of_getElem? (i := 15) rfl))) (mvT hZ (hw _ (List.mem_of_getElem? (i := 16) rfl))) (by decide) (backOf (W := 1) (rm4 l Z a0 hw [] b_26 r1 r3 h_26 n0 Zs E_b_26 F_first_b_26 F_last_b_26 g_b_26) hZ (hw _ (List.mem_of_getElem? (i := 16) rfl)) (hw _ (List.mem_of_getElem? (i := 3) rfl)) (by decide) (by decide)) (g := (mkF m 85 #[.val (.long q1), .second, .val (.long q2), .second, .val (.long q3), .second, .val (.long r1), .second, .val (.long r3), .second] [(.long r3), (.long r1), (.ref b_26), (.ref b_26)])) rfl (by rw [hml]; rfl) (Steps.refl _) (a := b_26) (argsL := [(.long r1), (.long r3)]) (rest := [(.ref b_26)]) (lenOf pd_1 rfl) rfl (by show 2 * 0 + _ ≤ _; exact Nat.le_of_eq rfl) (hb hby d1_85) (fun _ _ => ⟨rfl, e_26, (by decide : 1 + 0 ≤ _), (by decide : 2 + 0 ≤ _)⟩)
      dsimp only [Pt.U, Pt.locs, Pt.cells, Pt.slots] at X_27 l_27 y_27 z_27 st_27 hQ_27
      subst l_27 y_27 z_27
      obtain ⟨h_27, e_27⟩ : ∃ z, T_27.heap = z := ⟨_, rfl⟩
      rw [e_27] at hQ_27
      obtain ⟨Nq_27, K_27, n_27_F_first_b_26, n_27_F_last_b_26, rfl⟩ := hQ_27
      replace Nf := Fr.app Nf Nq_27
      replace E_b_26 := E_b_26.keep K_27
      clear F_first_b_26
      clear F_last_b_26
      replace lt_b_26 := Nat.lt_of_lt_of_le lt_b_26 K_27.1
      replace Zs := Nat.le_trans Zs K_27.1
      replace Kp := Kp.trans K_27 (allS (Or.inr sz_b_26) all0)
      have F_first_b_26 := n_27_F_first_b_26
      have F_last_b_26 := n_27_F_last_b_26
      refine Win.come st_27 ?_
      show Win p.tables e below _ (T_27.setTop (mkF m 88 #[.val (.long q1), .second, .val (.long q2), .second, .val (.long q3), .second, .val (.long r1), .second, .val (.long r3), .second] [(.ref b_26)]))
      refine winA X_27 hx hlk e_27 Bd.returns rfl rfl (hb hby d1_88) (by decide) (by decide) ?_
      refine ⟨Nf, Kp, b_26, _, _, rfl, g_b_26, sz_b_26, E_b_26, F_first_b_26, F_last_b_26, ?_⟩
      have h1 := c_ladd q3 q1
      have h2 := c_ladd q3 q2
      have h3 := c_lsub q3 1
      have h4 := rng64 (q3 + q1)
      have h5 := rng64 (q3 + q2)
      have h6 := rng64 (q3 - 1)
      have h7 := rng64 q1
      have h8 := rng64 q2
      have h9 := rng64 q3
      have e0 : (0 : Int64).toInt = 0 := rfl
      have e1 : (1 : Int64).toInt = 1 := rfl
      rw [e0] at hr1 hr2
      omega
theorem pn_0 : plainName "com/example/orbyt/orbyt/IndexRangeOfPinLaw" = true := by first | (simp [plainName, overriddenIn]; done) | decide +kernel
theorem pd_3 : parseMethodDescriptor "(JJJ)Lcom/example/orbyt/orbyt/IndexRange;" = some ⟨[.long, .long, .long], some (.object "com/example/orbyt/orbyt/IndexRange")⟩ := by decide +kernel
theorem pd_4 : parseMethodDescriptor "()J" = some ⟨[], some .long⟩ := by decide +kernel
theorem ef_0 (m : MethodId) (q1 : Int64) (q2 : Int64) (q3 : Int64) (q4 : Int64) : entryFrame m #[(.long q1), (.long q2), (.long q3), (.long q4)] maxLocals = mkF m 0 #[.val (.long q1), .second, .val (.long q2), .second, .val (.long q3), .second, .val (.long q4), .second, .unset, .unset, .unset, .unset, .unset, .unset, .unset, .unset, .unset, .unset] [] := by first | (simp [entryFrame, mkF, argsToLocals, Value.category, maxLocals]; done) | rfl
def Q0 (Z : State) (q1 : Int64) (q2 : Int64) (q3 : Int64) (q4 : Int64) (h0 : Heap) (n0 : Nat) (v : Option Value) (h : Heap) (L : List Loc) : Prop := Fr n0 L ∧ v = some (.int 1)
set_option maxRecDepth 65536 in
set_option maxHeartbeats 40000000 in
theorem rm0 (l : Launch) (Z : State) (a0 : Array Value) (hw : ∀ d ∈ tables_1, d.before a0 Z = true) (ws : List Jvm.Cond) (q1 : Int64) (q2 : Int64) (q3 : Int64) (q4 : Int64) (h0 : Heap) (n0 : Nat) (Zs : n0 ≤ h0.size) :
    MetFree l x (head1 (Jvm.Cond.code x code maxLocals ret :: ws) room_1) (fun as' U => as' = #[(.long q1), (.long q2), (.long q3), (.long q4)] ∧ Z.Warmed39 U.vm ∧ U.heap = h0) (fun _ _ _ _ _ => True) (fun _ U o U' => ∃ v L, o = .returned v ∧ Q0 Z q1 q2 q3 q4 h0 n0 v U'.heap L ∧ FrameEnd U o U' L room_1.cells room_1.slots) := by
  refine MetFree.of_bodySF (plainFor_of_name pn_0) hisR ?_
  intro p e s m args below meth c s₁ Bd hml0 hP hK
  obtain ⟨rfl, hZ, hh⟩ := hP
  have hx := Bd.exec
  have hby := Bd.bytes
  have hml : c.maxLocals = 18 := hml0
  have hown : s.vm.findClass "com/example/orbyt/orbyt/IndexRangeOfPinLaw" = some m.cls := findClass_of_methodNamed Bd.named
  have hnm := (name_of_methodNamed Bd.named Bd.method).1
  have hlk : meth.locks = false := Bd.notSynchronized
  have X0 : Stand p l e room_1 s m #[(.long q1), (.long q2), (.long q3), (.long q4)] below meth c s₁ [] 0 0 := Stand.of_body Bd
  have e0 : s₁.heap = h0 := by rw [← hh, Bd.state]; rfl
  have Nf := Fr.nil n0
  refine (?_ : Win p.tables e below (PostQ s (Q0 Z q1 q2 q3 q4 h0 n0) room_1.cells room_1.slots) (s₁.setTop (entryFrame m #[(.long q1), (.long q2), (.long q3), (.long q4)] maxLocals)))
  rw [ef_0]
  show Win p.tables e below _ (s₁.setTop (mkF m 0 #[.val (.long q1), .second, .val (.long q2), .second, .val (.long q3), .second, .val (.long q4), .second, .unset, .unset, .unset, .unset, .unset, .unset, .unset, .unset, .unset, .unset] []))
  refine s_lload (pc' := 2) X0.here hx (hb hby at_0) rfl rfl ?_
  refine Win.go (fun _ k => X0.ldc2Long hx hown (mvT hZ (hw _ (List.mem_of_getElem? (i := 0) rfl))) (g := (mkF m 2 #[.val (.long q1), .second, .val (.long q2), .second, .val (.long q3), .second, .val (.long q4), .second, .unset, .unset, .unset, .unset, .unset, .unset, .unset, .unset, .unset, .unset] [(.long q3)])) rfl (hb hby at_2) _ k) ?_
  show Win p.tables e below _ (s₁.setTop (mkF m 5 #[.val (.long q1), .second, .val (.long q2), .second, .val (.long q3), .second, .val (.long q4), .second, .unset, .unset, .unset, .unset, .unset, .unset, .unset, .unset, .unset, .unset] [(.long (9223372036854775807 : Int64)), (.long q3)]))
  refine s_land (pc' := 6) X0.here hx (hb hby at_5) rfl ?_
  refine s_lstore (pc' := 8) (l' := #[.val (.long q1), .second, .val (.long q2), .second, .val (.long q3), .second, .val (.long q4), .second, .val (.long (q3 &&& (9223372036854775807 : Int64))), .second, .unset, .unset, .unset, .unset, .unset, .unset, .unset, .unset]) X0.here hx (hb hby at_6) rfl rfl ?_
  generalize hln : (q3 &&& (9223372036854775807 : Int64)) = ln
  show Win p.tables e below _ (s₁.setTop (mkF m 8 #[.val (.long q1), .second, .val (.long q2), .second, .val (.long q3), .second, .val (.long q4), .second, .val (.long ln), .second, .unset, .unset, .unset, .unset, .unset, .unset, .unset, .unset] []))
  have bln := own_m63 q3
  rw [hln] at bln
  have h1 := c_ladd ln q1
  have h2 := c_ladd ln q2
  have h4 := rng64 (ln + q1)
  have h5 := rng64 (ln + q2)
  have h7 := rng64 q1
  have h8 := rng64 q2
  have h9 := rng64 ln
  refine s_lloadN (pc' := 9) X0.here hx (hb hby at_8) rfl rfl ?_
  refine s_lloadN (pc' := 10) X0.here hx (hb hby at_9) rfl rfl ?_
  refine s_lload (pc' := 12) X0.here hx (hb hby at_10) rfl rfl ?_
  obtain ⟨_, _, ⟨T_28, L_28, k_28, n_28⟩, -, X_28, ⟨Lc_28, hQ_28, l_28, y_28, z_28⟩, st_28⟩ := Jvm.LawKit.callS X0 hx (y := (⟨"com/example/orbyt/orbyt/IndexRange", "of", "(JJJ)Lcom/example/orbyt/orbyt/IndexRange;"⟩ : MethodName)) hown (mvT hZ (hw _ (List.mem_of_getElem? (i := 1) rfl))) (mvT hZ (hw _ (List.mem_of_getElem? (i := 2) rfl))) (mvT hZ (hw _ (List.mem_of_getElem? (i := 3) rfl))) (mvT hZ (hw _ (List.mem_of_getElem? (i := 4) rfl))) (by decide) (backOf (W := 0) (rm1 l Z a0 hw [] q1 q2 ln h0 n0 Zs (by omega)) hZ (hw _ (List.mem_of_getElem? (i := 4) rfl)) (hw _ (List.mem_of_getElem? (i := 3) rfl)) (by decide) (by decide)) (g := (mkF m 12 #[.val (.long q1), .second, .val (.long q2), .second, .val (.long q3), .second, .val (.long q4), .second, .val (.long ln), .second, .unset, .unset, .unset, .unset, .unset, .unset, .unset, .unset] [(.long ln), (.long q2), (.long q1)])) rfl (by rw [hml]; rfl) (argsL := [(.long q1), (.long q2), (.long ln)]) (rest := []) (lenOf pd_3 rfl) rfl (by show 2 * 0 + _ ≤ _; exact Nat.le_of_eq rfl) (hb hby at_12) (fun _ _ => ⟨rfl, e0, (by decide : 0 + 1 ≤ _), (by decide : 0 + 2 ≤ _)⟩)
  dsimp only [Pt.U, Pt.locs, Pt.cells, Pt.slots] at X_28 l_28 y_28 z_28 st_28 hQ_28
  subst l_28 y_28 z_28
  obtain ⟨h_28, e_28⟩ : ∃ z, T_28.heap = z := ⟨_, rfl⟩
  rw [e_28] at hQ_28
  obtain ⟨Nq_28, K_28, b_28, u1_28, u2_28, rfl, g_b_28, so_28, n_28_E_b_28, n_28_F_first_b_28, n_28_F_last_b_28, hp_0⟩ := hQ_28
  replace Nf := Fr.app Nf Nq_28
  replace Zs := Nat.le_trans Zs K_28.1
  have E_b_28 := n_28_E_b_28
  have F_first_b_28 := n_28_F_first_b_28
  have F_last_b_28 := n_28_F_last_b_28
  have lt_b_28 := E_b_28.lt
  refine Win.go st_28 ?_
  show Win p.tables e below _ (T_28.setTop (mkF m 15 #[.val (.long q1), .second, .val (.long q2), .second, .val (.long q3), .second, .val (.long q4), .second, .val (.long ln), .second, .unset, .unset, .unset, .unset, .unset, .unset, .unset, .unset] [(.ref b_28)]))
  refine s_astore (pc' := 17) (l' := #[.val (.long q1), .second, .val (.long q2), .second, .val (.long q3), .second, .val (.long q4), .second, .val (.long ln), .second, .val (.ref b_28), .unset, .unset, .unset, .unset, .unset, .unset, .unset]) X_28.here hx (hb hby at_15) rfl rfl rfl ?_
  have J44 : ∀ (TJ44 : State) (LJ44 : List Loc), Stand p l e room_1 s m #[(.long q1), (.long q2), (.long q3), (.long q4)] below meth c TJ44 LJ44 1 2 → TJ44.heap = h_28 → Fr n0 LJ44 → ∀ za : Int32, ((za.toInt = 1 ∧ (u1_28.toInt ≤ q4.toInt ∧ q4.toInt ≤ u2_28.toInt)) ∨ (za.toInt = 0 ∧ ¬ (u1_28.toInt ≤ q4.toInt ∧ q4.toInt ≤ u2_28.toInt))) → Win p.tables e below (PostQ s (Q0 Z q1 q2 q3 q4 h0 n0) room_1.cells room_1.slots) (TJ44.setTop (mkF m 44 #[.val (.long q1), .second, .val (.long q2), .second, .val (.long q3), .second, .val (.long q4), .second, .val (.long ln), .second, .val (.ref b_28), .unset, .unset, .unset, .unset, .unset, .unset, .unset] [(.int za)])) := by
    intro TJ44 LJ44 XJ44 eJ44 Nf za hJ44
    refine s_istore (pc' := 46) (l' := #[.val (.long q1), .second, .val (.long q2), .second, .val (.long q3), .second, .val (.long q4), .second, .val (.long ln), .second, .val (.ref b_28), .val (.int za), .unset, .unset, .unset, .unset, .unset, .unset]) XJ44.here hx (hb hby at_44) rfl rfl ?_
    have J60 : ∀ rs : Int64, ((q1.toInt < 0 → rs.toInt = ln.toInt + q1.toInt) ∧ (0 ≤ q1.toInt → rs.toInt = q1.toInt)) → Win p.tables e below (PostQ s (Q0 Z q1 q2 q3 q4 h0 n0) room_1.cells room_1.slots) (TJ44.setTop (mkF m 60 #[.val (.long q1), .second, .val (.long q2), .second, .val (.long q3), .second, .val (.long q4), .second, .val (.long ln), .second, .val (.ref b_28), .val (.int za), .unset, .unset, .unset, .unset, .unset, .unset] [(.long rs)])) := by
      intro rs hJ60
      refine s_lstore (pc' := 62) (l' := #[.val (.long q1), .second, .val (.long q2), .second, .val (.long q3), .second, .val (.long q4), .second, .val (.long ln), .second, .val (.ref b_28), .val (.int za), .val (.long rs), .second, .unset, .unset, .unset, .unset]) XJ44.here hx (hb hby at_60) rfl rfl ?_
      have J76 : ∀ re : Int64, ((q2.toInt < 0 → re.toInt = ln.toInt + q2.toInt) ∧ (0 ≤ q2.toInt → re.toInt = q2.toInt)) → Win p.tables e below (PostQ s (Q0 Z q1 q2 q3 q4 h0 n0) room_1.cells room_1.slots) (TJ44.setTop (mkF m 76 #[.val (.long q1), .second, .val (.long q2), .second, .val (.long q3), .second, .val (.long q4), .second, .val (.long ln), .second, .val (.ref b_28), .val (.int za), .val (.long rs), .second, .unset, .unset, .unset, .unset] [(.long re)])) := by
        intro re hJ76
        refine s_lstore (pc' := 78) (l' := #[.val (.long q1), .second, .val (.long q2), .second, .val (.long q3), .second, .val (.long q4), .second, .val (.long ln), .second, .val (.ref b_28), .val (.int za), .val (.long rs), .second, .val (.long re), .second, .unset, .unset]) XJ44.here hx (hb hby at_76) rfl rfl ?_
        have J101 : ∀ zc : Int32, ((zc.toInt = 1 ∧ ((q1.toInt < 0 ∧ q2.toInt < 0 ∧ q2.toInt < q1.toInt))) ∨ (zc.toInt = 0 ∧ ¬ ((q1.toInt < 0 ∧ q2.toInt < 0 ∧ q2.toInt < q1.toInt)))) → Win p.tables e below (PostQ s (Q0 Z q1 q2 q3 q4 h0 n0) room_1.cells room_1.slots) (TJ44.setTop (mkF m 101 #[.val (.long q1), .second, .val (.long q2), .second, .val (.long q3), .second, .val (.long q4), .second, .val (.long ln), .second, .val (.ref b_28), .val (.int za), .val (.long rs), .second, .val (.long re), .second, .unset, .unset] [(.int zc)])) := by
          intro zc hJ101
          refine s_istore (pc' := 103) (l' := #[.val (.long q1), .second, .val (.long q2), .second, .val (.long q3), .second, .val (.long q4), .second, .val (.long ln), .second, .val (.ref b_28), .val (.int za), .val (.long rs), .second, .val (.long re), .second, .val (.int zc), .unset]) XJ44.here hx (hb hby at_101) rfl rfl ?_
          have J151 : ∀ ze : Int32, ((ze.toInt = 1 ∧ (0 ≤ q4.toInt ∧ q4.toInt < ln.toInt ∧ rs.toInt ≤ q4.toInt ∧ (q4.toInt ≤ re.toInt ∨ q4.toInt = 0) ∧ zc.toInt = 0)) ∨ (ze.toInt = 0 ∧ ¬ (0 ≤ q4.toInt ∧ q4.toInt < ln.toInt ∧ rs.toInt ≤ q4.toInt ∧ (q4.toInt ≤ re.toInt ∨ q4.toInt = 0) ∧ zc.toInt = 0))) → Win p.tables e below (PostQ s (Q0 Z q1 q2 q3 q4 h0 n0) room_1.cells room_1.slots) (TJ44.setTop (mkF m 151 #[.val (.long q1), .second, .val (.long q2), .second, .val (.long q3), .second, .val (.long q4), .second, .val (.long ln), .second, .val (.ref b_28), .val (.int za), .val (.long rs), .second, .val (.long re), .second, .val (.int zc), .unset] [(.int ze)])) := by
            intro ze hJ151
            refine s_istore (pc' := 153) (l' := #[.val (.long q1), .second, .val (.long q2), .second, .val (.long q3), .second, .val (.long q4), .second, .val (.long ln), .second, .val (.ref b_28), .val (.int za), .val (.long rs), .second, .val (.long re), .second, .val (.int zc), .val (.int ze)]) XJ44.here hx (hb hby at_151) rfl rfl ?_
            refine s_iload (pc' := 155) XJ44.here hx (hb hby at_153) rfl rfl ?_
            refine s_iload (pc' := 157) XJ44.here hx (hb hby at_155) rfl rfl ?_
            by_cases hc157 : (za).toInt = (ze).toInt
            · skip
              refine s_icmpNo (pc' := 160) XJ44.here hx (hb hby at_157) rfl (teqI (x := za) (y := ze) hc157).2 ?_
              refine s_iconst (pc' := 161) (z := (1 : Int32)) XJ44.here hx (hb hby at_160) rfl rfl ?_
              refine s_goto (pc' := 165) XJ44.here hx (hb hby at_161) (by decide) (by decide) ?_
              refine winN XJ44 hx hlk eJ44 (t := .boolean) Bd.returns (by simp) (hb hby at_165) (by decide) (by decide) (z' := 1) rfl ⟨Nf, rfl⟩
            · skip
              refine s_icmpYes (pc' := 164) XJ44.here hx (hb hby at_157) (feqI (x := za) (y := ze) hc157).2 (by decide) (by decide) ?_
              refine s_iconst (pc' := 165) (z := (0 : Int32)) XJ44.here hx (hb hby at_164) rfl rfl ?_
              exfalso
              omega
          refine s_lconst (pc' := 104) (z := (0 : Int64)) XJ44.here hx (hb hby at_103) rfl rfl ?_
          refine s_lload (pc' := 106) XJ44.here hx (hb hby at_104) rfl rfl ?_
          refine s_lcmp (pc' := 107) XJ44.here hx (hb hby at_106) rfl ?_
          by_cases hc107 : (q4).toInt < (0 : Int)
          · skip
            refine s_ifYes (pc' := 150) XJ44.here hx (hb hby at_107) (tltL (x := q4) (y := (0 : Int64)) hc107).2.2.1 (by decide) (by decide) ?_
            refine s_iconst (pc' := 151) (z := (0 : Int32)) XJ44.here hx (hb hby at_150) rfl rfl ?_
            exact J151 (0 : Int32) (by exact Or.inr ⟨rfl, by omega⟩)
          · skip
            refine s_ifNo (pc' := 110) XJ44.here hx (hb hby at_107) rfl (fltL (x := q4) (y := (0 : Int64)) hc107).2.2.1 ?_
            refine s_lload (pc' := 112) XJ44.here hx (hb hby at_110) rfl rfl ?_
            refine s_lload (pc' := 114) XJ44.here hx (hb hby at_112) rfl rfl ?_
            refine s_lcmp (pc' := 115) XJ44.here hx (hb hby at_114) rfl ?_
            by_cases hc115 : (q4).toInt < (ln).toInt
            · skip
              refine s_ifNo (pc' := 118) XJ44.here hx (hb hby at_115) rfl (tltL (x := q4) (y := ln) hc115).2.1 ?_
              refine s_lload (pc' := 120) XJ44.here hx (hb hby at_118) rfl rfl ?_
              refine s_lload (pc' := 122) XJ44.here hx (hb hby at_120) rfl rfl ?_
              refine s_lcmp (pc' := 123) XJ44.here hx (hb hby at_122) rfl ?_
              by_cases hc123 : (q4).toInt < (rs).toInt
              · skip
                refine s_ifYes (pc' := 150) XJ44.here hx (hb hby at_123) (tltL (x := q4) (y := rs) hc123).1 (by decide) (by decide) ?_
                refine s_iconst (pc' := 151) (z := (0 : Int32)) XJ44.here hx (hb hby at_150) rfl rfl ?_
                exact J151 (0 : Int32) (by exact Or.inr ⟨rfl, by omega⟩)
              · skip
                refine s_ifNo (pc' := 126) XJ44.here hx (hb hby at_123) rfl (fltL (x := q4) (y := rs) hc123).1 ?_
                refine s_lload (pc' := 128) XJ44.here hx (hb hby at_126) rfl rfl ?_
                refine s_lload (pc' := 130) XJ44.here hx (hb hby at_128) rfl rfl ?_
                refine s_lcmp (pc' := 131) XJ44.here hx (hb hby at_130) rfl ?_
                by_cases hc131 : (re).toInt < (q4).toInt
                · skip
                  refine s_ifNo (pc' := 134) XJ44.here hx (hb hby at_131) rfl (tltL (x := re) (y := q4) hc131).2.2.2 ?_
                  refine s_lload (pc' := 136) XJ44.here hx (hb hby at_134) rfl rfl ?_
                  refine s_lconst (pc' := 137) (z := (0 : Int64)) XJ44.here hx (hb hby at_136) rfl rfl ?_
                  refine s_lcmp (pc' := 138) XJ44.here hx (hb hby at_137) rfl ?_
                  by_cases hc138 : (q4).toInt = (0 : Int)
                  · skip
                    refine s_ifNo (pc' := 141) XJ44.here hx (hb hby at_138) rfl (teqL (x := q4) (y := (0 : Int64)) hc138).2 ?_
                    refine s_iload (pc' := 143) XJ44.here hx (hb hby at_141) rfl rfl ?_
                    by_cases hc143 : (zc).toInt = (0 : Int)
                    · skip
                      refine s_ifNo (pc' := 146) XJ44.here hx (hb hby at_143) rfl ((if0 _ _).trans (teqI (x := zc) (y := (0 : Int32)) hc143).2) ?_
                      refine s_iconst (pc' := 147) (z := (1 : Int32)) XJ44.here hx (hb hby at_146) rfl rfl ?_
                      refine s_goto (pc' := 151) XJ44.here hx (hb hby at_147) (by decide) (by decide) ?_
                      exact J151 (1 : Int32) (by exact Or.inl ⟨rfl, by omega⟩)
                    · skip
                      refine s_ifYes (pc' := 150) XJ44.here hx (hb hby at_143) ((if0 _ _).trans (feqI (x := zc) (y := (0 : Int32)) hc143).2) (by decide) (by decide) ?_
                      refine s_iconst (pc' := 151) (z := (0 : Int32)) XJ44.here hx (hb hby at_150) rfl rfl ?_
                      exact J151 (0 : Int32) (by exact Or.inr ⟨rfl, by omega⟩)
                  · skip
                    refine s_ifYes (pc' := 150) XJ44.here hx (hb hby at_138) (feqL (x := q4) (y := (0 : Int64)) hc138).2 (by decide) (by decide) ?_
                    refine s_iconst (pc' := 151) (z := (0 : Int32)) XJ44.here hx (hb hby at_150) rfl rfl ?_
                    exact J151 (0 : Int32) (by exact Or.inr ⟨rfl, by omega⟩)
                · skip
                  refine s_ifYes (pc' := 141) XJ44.here hx (hb hby at_131) (fltL (x := re) (y := q4) hc131).2.2.2 (by decide) (by decide) ?_
                  refine s_iload (pc' := 143) XJ44.here hx (hb hby at_141) rfl rfl ?_
                  by_cases hc143 : (zc).toInt = (0 : Int)
                  · skip
                    refine s_ifNo (pc' := 146) XJ44.here hx (hb hby at_143) rfl ((if0 _ _).trans (teqI (x := zc) (y := (0 : Int32)) hc143).2) ?_
                    refine s_iconst (pc' := 147) (z := (1 : Int32)) XJ44.here hx (hb hby at_146) rfl rfl ?_
                    refine s_goto (pc' := 151) XJ44.here hx (hb hby at_147) (by decide) (by decide) ?_
                    exact J151 (1 : Int32) (by exact Or.inl ⟨rfl, by omega⟩)
                  · skip
                    refine s_ifYes (pc' := 150) XJ44.here hx (hb hby at_143) ((if0 _ _).trans (feqI (x := zc) (y := (0 : Int32)) hc143).2) (by decide) (by decide) ?_
                    refine s_iconst (pc' := 151) (z := (0 : Int32)) XJ44.here hx (hb hby at_150) rfl rfl ?_
                    exact J151 (0 : Int32) (by exact Or.inr ⟨rfl, by omega⟩)
            · skip
              refine s_ifYes (pc' := 150) XJ44.here hx (hb hby at_115) (fltL (x := q4) (y := ln) hc115).2.1 (by decide) (by decide) ?_
              refine s_iconst (pc' := 151) (z := (0 : Int32)) XJ44.here hx (hb hby at_150) rfl rfl ?_
              exact J151 (0 : Int32) (by exact Or.inr ⟨rfl, by omega⟩)
        refine s_lloadN (pc' := 79) XJ44.here hx (hb hby at_78) rfl rfl ?_
        refine s_lconst (pc' := 80) (z := (0 : Int64)) XJ44.here hx (hb hby at_79) rfl rfl ?_
        refine s_lcmp (pc' := 81) XJ44.here hx (hb hby at_80) rfl ?_
        by_cases hc81 : (q1).toInt < (0 : Int)
        · skip
          refine s_ifNo (pc' := 84) XJ44.here hx (hb hby at_81) rfl (tltL (x := q1) (y := (0 : Int64)) hc81).2.1 ?_
          refine s_lloadN (pc' := 85) XJ44.here hx (hb hby at_84) rfl rfl ?_
          refine s_lconst (pc' := 86) (z := (0 : Int64)) XJ44.here hx (hb hby at_85) rfl rfl ?_
          refine s_lcmp (pc' := 87) XJ44.here hx (hb hby at_86) rfl ?_
          by_cases hc87 : (q2).toInt < (0 : Int)
          · skip
            refine s_ifNo (pc' := 90) XJ44.here hx (hb hby at_87) rfl (tltL (x := q2) (y := (0 : Int64)) hc87).2.1 ?_
            refine s_lloadN (pc' := 91) XJ44.here hx (hb hby at_90) rfl rfl ?_
            refine s_lloadN (pc' := 92) XJ44.here hx (hb hby at_91) rfl rfl ?_
            refine s_lcmp (pc' := 93) XJ44.here hx (hb hby at_92) rfl ?_
            by_cases hc93 : (q2).toInt < (q1).toInt
            · skip
              refine s_ifNo (pc' := 96) XJ44.here hx (hb hby at_93) rfl (tltL (x := q2) (y := q1) hc93).2.2.2 ?_
              refine s_iconst (pc' := 97) (z := (1 : Int32)) XJ44.here hx (hb hby at_96) rfl rfl ?_
              refine s_goto (pc' := 101) XJ44.here hx (hb hby at_97) (by decide) (by decide) ?_
              exact J101 (1 : Int32) (by exact Or.inl ⟨rfl, by omega⟩)
            · skip
              refine s_ifYes (pc' := 100) XJ44.here hx (hb hby at_93) (fltL (x := q2) (y := q1) hc93).2.2.2 (by decide) (by decide) ?_
              refine s_iconst (pc' := 101) (z := (0 : Int32)) XJ44.here hx (hb hby at_100) rfl rfl ?_
              exact J101 (0 : Int32) (by exact Or.inr ⟨rfl, by omega⟩)
          · skip
            refine s_ifYes (pc' := 100) XJ44.here hx (hb hby at_87) (fltL (x := q2) (y := (0 : Int64)) hc87).2.1 (by decide) (by decide) ?_
            refine s_iconst (pc' := 101) (z := (0 : Int32)) XJ44.here hx (hb hby at_100) rfl rfl ?_
            exact J101 (0 : Int32) (by exact Or.inr ⟨rfl, by omega⟩)
        · skip
          refine s_ifYes (pc' := 100) XJ44.here hx (hb hby at_81) (fltL (x := q1) (y := (0 : Int64)) hc81).2.1 (by decide) (by decide) ?_
          refine s_iconst (pc' := 101) (z := (0 : Int32)) XJ44.here hx (hb hby at_100) rfl rfl ?_
          exact J101 (0 : Int32) (by exact Or.inr ⟨rfl, by omega⟩)
      refine s_lloadN (pc' := 63) XJ44.here hx (hb hby at_62) rfl rfl ?_
      refine s_lconst (pc' := 64) (z := (0 : Int64)) XJ44.here hx (hb hby at_63) rfl rfl ?_
      refine s_lcmp (pc' := 65) XJ44.here hx (hb hby at_64) rfl ?_
      by_cases hc65 : (q2).toInt < (0 : Int)
      · skip
        refine s_ifNo (pc' := 68) XJ44.here hx (hb hby at_65) rfl (tltL (x := q2) (y := (0 : Int64)) hc65).2.1 ?_
        refine s_lload (pc' := 70) XJ44.here hx (hb hby at_68) rfl rfl ?_
        refine s_lloadN (pc' := 71) XJ44.here hx (hb hby at_70) rfl rfl ?_
        refine s_ladd (pc' := 72) XJ44.here hx (hb hby at_71) rfl ?_
        refine s_goto (pc' := 76) XJ44.here hx (hb hby at_72) (by decide) (by decide) ?_
        exact J76 (ln + q2) (by omega)
      · skip
        refine s_ifYes (pc' := 75) XJ44.here hx (hb hby at_65) (fltL (x := q2) (y := (0 : Int64)) hc65).2.1 (by decide) (by decide) ?_
        refine s_lloadN (pc' := 76) XJ44.here hx (hb hby at_75) rfl rfl ?_
        exact J76 q2 (by omega)
    refine s_lloadN (pc' := 47) XJ44.here hx (hb hby at_46) rfl rfl ?_
    refine s_lconst (pc' := 48) (z := (0 : Int64)) XJ44.here hx (hb hby at_47) rfl rfl ?_
    refine s_lcmp (pc' := 49) XJ44.here hx (hb hby at_48) rfl ?_
    by_cases hc49 : (q1).toInt < (0 : Int)
    · skip
      refine s_ifNo (pc' := 52) XJ44.here hx (hb hby at_49) rfl (tltL (x := q1) (y := (0 : Int64)) hc49).2.1 ?_
      refine s_lload (pc' := 54) XJ44.here hx (hb hby at_52) rfl rfl ?_
      refine s_lloadN (pc' := 55) XJ44.here hx (hb hby at_54) rfl rfl ?_
      refine s_ladd (pc' := 56) XJ44.here hx (hb hby at_55) rfl ?_
      refine s_goto (pc' := 60) XJ44.here hx (hb hby at_56) (by decide) (by decide) ?_
      exact J60 (ln + q1) (by omega)
    · skip
      refine s_ifYes (pc' := 59) XJ44.here hx (hb hby at_49) (fltL (x := q1) (y := (0 : Int64)) hc49).2.1 (by decide) (by decide) ?_
      refine s_lloadN (pc' := 60) XJ44.here hx (hb hby at_59) rfl rfl ?_
      exact J60 q1 (by omega)
  refine s_aload (pc' := 19) X_28.here hx (hb hby at_17) rfl rfl rfl ?_
  obtain ⟨cq_29, kq_29, q_29a, q_29b, q_29c⟩ := isOf hZ e_28 E_b_28
  obtain ⟨_, _, ⟨T_29, L_29, k_29, n_29⟩, -, X_29, ⟨Lc_29, hQ_29, l_29, y_29, z_29⟩, st_29⟩ := X_28.virtualBack hx (y := (⟨"com/example/orbyt/orbyt/IndexRange", "first", "()J"⟩ : MethodName)) (z := (⟨"com/example/orbyt/orbyt/IndexRange", "first", "()J"⟩ : MethodName)) hown (mvT hZ (hw _ (List.mem_of_getElem? (i := 29) rfl))) (mvT hZ (hw _ (List.mem_of_getElem? (i := 30) rfl))) (notFace_of_selects (args := #[]) (mvT hZ (hw _ (List.mem_of_getElem? (i := 32) rfl)))) (mvT hZ (hw _ (List.mem_of_getElem? (i := 32) rfl))) (mvT hZ (hw _ (List.mem_of_getElem? (i := 31) rfl))) (by decide) (backOf (W := 0) (rm7 l Z a0 hw [] b_28 u1_28 h_28 n0 Zs F_first_b_28) hZ (hw _ (List.mem_of_getElem? (i := 33) rfl)) (hw _ (List.mem_of_getElem? (i := 3) rfl)) (by decide) (by decide)) q_29a q_29c (g := (mkF m 19 #[.val (.long q1), .second, .val (.long q2), .second, .val (.long q3), .second, .val (.long q4), .second, .val (.long ln), .second, .val (.ref b_28), .unset, .unset, .unset, .unset, .unset, .unset, .unset] [(.ref b_28)])) rfl (by rw [hml]; rfl) (Steps.refl _) (argsL := []) (rest := []) (lenOf pd_4 rfl) rfl (by show 2 * 0 + _ ≤ _; exact Nat.le_of_eq rfl) (hb hby at_19) (fun _ _ => ⟨rfl, e_28, (by decide : 1 + 0 ≤ _), (by decide : 2 + 0 ≤ _)⟩)
  dsimp only [Pt.U, Pt.locs, Pt.cells, Pt.slots] at X_29 l_29 y_29 z_29 st_29 hQ_29
  subst l_29 y_29 z_29
  obtain ⟨Nq_29, e_29, rfl⟩ := hQ_29
  replace Nf := Fr.app Nf Nq_29
  refine Win.come st_29 ?_
  show Win p.tables e below _ (T_29.setTop (mkF m 22 #[.val (.long q1), .second, .val (.long q2), .second, .val (.long q3), .second, .val (.long q4), .second, .val (.long ln), .second, .val (.ref b_28), .unset, .unset, .unset, .unset, .unset, .unset, .unset] [(.long u1_28)]))
  refine s_lload (pc' := 24) X_29.here hx (hb hby at_22) rfl rfl ?_
  refine s_lcmp (pc' := 25) X_29.here hx (hb hby at_24) rfl ?_
  by_cases hc25 : (q4).toInt < (u1_28).toInt
  · skip
    refine s_ifYes (pc' := 43) X_29.here hx (hb hby at_25) (tltL (x := q4) (y := u1_28) hc25).2.2.1 (by decide) (by decide) ?_
    refine s_iconst (pc' := 44) (z := (0 : Int32)) X_29.here hx (hb hby at_43) rfl rfl ?_
    exact J44 _ _ X_29 e_29 Nf (0 : Int32) (by exact Or.inr ⟨rfl, by omega⟩)
  · skip
    refine s_ifNo (pc' := 28) X_29.here hx (hb hby at_25) rfl (fltL (x := q4) (y := u1_28) hc25).2.2.1 ?_
    refine s_lload (pc' := 30) X_29.here hx (hb hby at_28) rfl rfl ?_
    refine s_aload (pc' := 32) X_29.here hx (hb hby at_30) rfl rfl rfl ?_
    obtain ⟨cq_30, kq_30, q_30a, q_30b, q_30c⟩ := isOf hZ e_29 E_b_28
    obtain ⟨_, _, ⟨T_30, L_30, k_30, n_30⟩, -, X_30, ⟨Lc_30, hQ_30, l_30, y_30, z_30⟩, st_30⟩ := X_29.virtualBack hx (y := (⟨"com/example/orbyt/orbyt/IndexRange", "last", "()J"⟩ : MethodName)) (z := (⟨"com/example/orbyt/orbyt/IndexRange", "last", "()J"⟩ : MethodName)) hown (mvT hZ (hw _ (List.mem_of_getElem? (i := 34) rfl))) (mvT hZ (hw _ (List.mem_of_getElem? (i := 35) rfl))) (notFace_of_selects (args := #[]) (mvT hZ (hw _ (List.mem_of_getElem? (i := 37) rfl)))) (mvT hZ (hw _ (List.mem_of_getElem? (i := 37) rfl))) (mvT hZ (hw _ (List.mem_of_getElem? (i := 36) rfl))) (by decide) (backOf (W := 2) (rm8 l Z a0 hw [] b_28 u2_28 h_28 n0 Zs F_last_b_28) hZ (hw _ (List.mem_of_getElem? (i := 38) rfl)) (hw _ (List.mem_of_getElem? (i := 3) rfl)) (by decide) (by decide)) q_30a q_30c (g := (mkF m 32 #[.val (.long q1), .second, .val (.long q2), .second, .val (.long q3), .second, .val (.long q4), .second, .val (.long ln), .second, .val (.ref b_28), .unset, .unset, .unset, .unset, .unset, .unset, .unset] [(.ref b_28), (.long q4)])) rfl (by rw [hml]; rfl) (Steps.refl _) (argsL := []) (rest := [(.long q4)]) (lenOf pd_4 rfl) rfl (by show 2 * 0 + _ ≤ _; exact Nat.le_of_eq rfl) (hb hby at_32) (fun _ _ => ⟨rfl, e_29, (by decide : 1 + 0 ≤ _), (by decide : 2 + 0 ≤ _)⟩)
    dsimp only [Pt.U, Pt.locs, Pt.cells, Pt.slots] at X_30 l_30 y_30 z_30 st_30 hQ_30
    subst l_30 y_30 z_30
    obtain ⟨Nq_30, e_30, rfl⟩ := hQ_30
    replace Nf := Fr.app Nf Nq_30
    refine Win.come st_30 ?_
    show Win p.tables e below _ (T_30.setTop (mkF m 35 #[.val (.long q1), .second, .val (.long q2), .second, .val (.long q3), .second, .val (.long q4), .second, .val (.long ln), .second, .val (.ref b_28), .unset, .unset, .unset, .unset, .unset, .unset, .unset] [(.long u2_28), (.long q4)]))
    refine s_lcmp (pc' := 36) X_30.here hx (hb hby at_35) rfl ?_
    by_cases hc36 : (u2_28).toInt < (q4).toInt
    · skip
      refine s_ifYes (pc' := 43) X_30.here hx (hb hby at_36) (tltL (x := u2_28) (y := q4) hc36).2.2.1 (by decide) (by decide) ?_
      refine s_iconst (pc' := 44) (z := (0 : Int32)) X_30.here hx (hb hby at_43) rfl rfl ?_
      exact J44 _ _ X_30 e_30 Nf (0 : Int32) (by exact Or.inr ⟨rfl, by omega⟩)
    · skip
      refine s_ifNo (pc' := 39) X_30.here hx (hb hby at_36) rfl (fltL (x := u2_28) (y := q4) hc36).2.2.1 ?_
      refine s_iconst (pc' := 40) (z := (1 : Int32)) X_30.here hx (hb hby at_39) rfl rfl ?_
      refine s_goto (pc' := 44) X_30.here hx (hb hby at_40) (by decide) (by decide) ?_
      exact J44 _ _ X_30 e_30 Nf (1 : Int32) (by exact Or.inl ⟨rfl, by omega⟩)
set_option maxRecDepth 65536 in
set_option maxHeartbeats 40000000 in
theorem comes_1 {Post : Tables → Env → Array Value → State → Outcome → State → Prop} (hpost : ∀ tb e args s v u, (limb_1_1.after args s (.returned v) u = true ∧ limb_1_2.after args s (.returned v) u = true ∧ True) → FrameEnd s (.returned v) u (Jvm.fieldLocs frame_1_writes args s ++ Jvm.arrayLocs frame_1_arrays args s ++ Jvm.staticLocs frame_1_statics s) 16 128 → Post tb e args s (.returned v) u) :
    ArmFor flags0 classFile x code maxLocals ret World_1 tables_1 room_1 Calls_1 rest_1 Pre_1 Post := by
  intro l hfl _ _ p e ha hc hk s m args below hf hA hF happ hP
  obtain ⟨hcalls, hrest, hpre⟩ := hP
  obtain ⟨-, -, -, hnamed, -, -, -, hat⟩ := (Spec.applies_iff hf).mp happ
  obtain ⟨hg, hn⟩ := and_e (Cond.before_iff.mp (show (Jvm.Cond.and given_1 narrow_1).before args s = true from hpre))
  obtain ⟨g1, g2⟩ := and_e hg
  obtain ⟨g3, g4⟩ := and_e g2
  obtain ⟨g5, g6⟩ := and_e g4
  obtain ⟨g7, g8⟩ := and_e g6
  obtain ⟨w0, w1, w2, w3, rfl⟩ : ∃ w0 w1 w2 w3 : Value, args = #[w0, w1, w2, w3] := by
    have hs : args.size = 4 := by simpa [Cond.value, given_1] using g1
    obtain ⟨L⟩ := args
    match L, hs with
    | [w0, w1, w2, w3], _ => exact ⟨w0, w1, w2, w3, rfl⟩
  have hw := fun d (hd : d ∈ tables_1) => atoms_spec (ws := Jvm.Cond.code x code maxLocals ret :: tables_1) hat d (List.mem_cons_of_mem _ hd)
  have hfit : Fit s := fun {y c} hc i hi => by
    obtain ⟨ha, rfl⟩ := Array.getElem?_eq_some_iff.mp hc
    have q := List.all_eq_true.mp ((Array.all_eq_true_iff_forall_mem.mp hF) _ (Array.getElem_mem ha)) i (List.mem_range.mpr hi)
    simpa [Array.getElem?_eq_getElem hi] using q
  obtain ⟨i0, ei0⟩ := isL_v g3
  obtain rfl : w0 = (.long i0) := Option.some.inj ei0
  obtain ⟨i1, ei1⟩ := isL_v g5
  obtain rfl : w1 = (.long i1) := Option.some.inj ei1
  obtain ⟨i2, ei2⟩ := isL_v g7
  obtain rfl : w2 = (.long i2) := Option.some.inj ei2
  obtain ⟨i3, ei3⟩ := isL_v g8
  obtain rfl : w3 = (.long i3) := Option.some.inj ei3
  obtain ⟨n, o, h1, h2, h3, _, L, rfl, ⟨N, rfl⟩, hq⟩ := rm0 l s _ hw tables_1 i0 i1 i2 i3 s.heap s.heap.size (Nat.le_refl _) p e ha hc hk s m _ below hf ((Spec.applies_iff_loose hf).mp happ).1 ⟨rfl, State.Warmed39.refl s, rfl⟩ trivial
  refine ⟨n, _, h1, h2, h3, hpost _ _ _ _ _ _ ⟨Cond.after_iff.mpr rfl, Cond.after_iff.mpr (eq_i res_at (Term.int_eval (1)) rfl), trivial⟩ ⟨hq.1, hq.2.1, (hq.2.2.sift fun y hy => Or.inr (N y hy)).mono (by decide) (by decide)⟩⟩
theorem main_1_1 : Claimed_1_1 := comes_1 fun _ _ _ _ _ _ h hF => ⟨h.1, hF⟩
theorem main_1_2 : Claimed_1_2 := comes_1 fun _ _ _ _ _ _ h hF => ⟨h.2.1, hF⟩
end Jvm.Pilot.@@N@@
namespace Jvm.Pilot.@@N@@
open Jvm Jvm.ClassFile Sem Op Lib Jvm.Free Jvm.Stand Jvm.Pilot.@@N@@.Jvm.D
/-! MADE BY PROGRAM (witnessworld.py) out of the Statement's table words and the real class files: 11 classes; the members and pool entries that the words name. The judged class is class 1, her method 1. -/
namespace start1
open Jvm.ClassFile
def u (s : String) : CpInfo := .utf8 (stringToUtf16 s)
/-- a pool by its gaps: so many unusable entries, then the entry; so many at the end -/
def gap : Nat → List CpInfo → List CpInfo
  | 0, r => r
  | n + 1, r => .unusable :: gap n r
def poolList (es : List (Nat × CpInfo)) (last : Nat) : List CpInfo := es.foldr (fun e r => gap e.1 (e.2 :: r)) (gap last [])
def pool (es : List (Nat × CpInfo)) (last : Nat) : Array CpInfo := ⟨poolList es last⟩
def fileOf (pool : Array CpInfo) (this : Nat) (attrs : Array Attribute := #[]) (ms : Array MethodInfo := #[]) (fl : Nat := 33) (sup : Nat := 0) (ifs : Array Nat := #[]) (fds : Array FieldInfo := #[]) : ClassFile where
  minorVersion := 0
  majorVersion := 65
  constantPool := pool
  accessFlags := fl
  thisClass := this
  superClass := sup
  interfaces := ifs
  fields := fds
  methods := ms
  attributes := attrs
def plain (name : String) (sup : Option ClassId) : Class where
  name := name
  kind := .ordinary
  loader := none
  accessFlags := 33
  super := sup
  interfaces := #[]
  cf := none
  fields := #[]
  methods := #[]
  instanceTypes := #[]
  staticTypes := #[]
  resolved := #[]
  callSites := []
  init := .initialized
  statics := none
  mirror := none

def pool0 : Array CpInfo := pool [(5, u "<init>"), (0, u "()V"), (1, .class_ 10), (1, u "java/lang/Object")] 113

def k0c0 : Code := { maxStack := 0, maxLocals := 1, code := object_method_1_code, exceptionTable := #[], attributes := #[] }
def k0m0 : Method := { name := "<init>", desc := "()V", sig := { parameters := [], returnType := none }, accessFlags := 1, code := some k0c0 }
/-- java/lang/Object -/
def k0 : Class := { plain "java/lang/Object" none with
  accessFlags := 33
  interfaces := #[]
  cf := some (fileOf pool0 8 #[] #[{ accessFlags := 1, nameIndex := 5, descriptorIndex := 6, attributes := #[] }] 33 0 #[] #[])
  fields := #[]
  methods := #[k0m0]
  instanceTypes := #[]
  staticTypes := #[]
  resolved := Array.replicate 124 none
  statics := none }

def pool1 : Array CpInfo := pool [(2, .class_ 4), (1, u "java/lang/Object"), (0, u "<init>"), (0, u "()V"), (2, .long 9223372036854775807), (1, .methodref 12 13), (0, .class_ 14), (0, .nameAndType 15 16), (0, u "com/example/orbyt/orbyt/IndexRange"), (0, u "of"), (0, u "(JJJ)Lcom/example/orbyt/orbyt/IndexRange;"), (0, .methodref 12 18), (0, .nameAndType 19 20), (0, u "first"), (0, u "()J"), (0, .methodref 12 22), (0, .nameAndType 23 20), (0, u "last"), (0, .class_ 25), (0, u "com/example/orbyt/orbyt/IndexRangeOfPinLaw"), (2, u "law"), (0, u "(JJJJ)Z")] 3

def k1m0 : Method := { name := "<init>", desc := "()V", sig := { parameters := [], returnType := none }, accessFlags := 1, code := none }
def k1c1 : Code := { maxStack := 6, maxLocals := 18, code := code, exceptionTable := #[], attributes := #[] }
def k1m1 : Method := { name := "law", desc := "(JJJJ)Z", sig := { parameters := [.long, .long, .long, .long], returnType := some .boolean }, accessFlags := 9, code := some k1c1 }
/-- com/example/orbyt/orbyt/IndexRangeOfPinLaw -/
def k1 : Class := { plain "com/example/orbyt/orbyt/IndexRangeOfPinLaw" (some 0) with
  accessFlags := 49
  interfaces := #[]
  cf := some (fileOf pool1 24 #[] #[{ accessFlags := 1, nameIndex := 5, descriptorIndex := 6, attributes := #[] }, { accessFlags := 9, nameIndex := 28, descriptorIndex := 29, attributes := #[] }] 49 2 #[] #[])
  fields := #[]
  methods := #[k1m0, k1m1]
  instanceTypes := #[]
  staticTypes := #[]
  resolved := Array.replicate 33 none
  statics := none }

def pool2 : Array CpInfo := pool [(1, .methodref 2 3), (0, .class_ 4), (0, .nameAndType 5 6), (0, u "java/lang/Object"), (0, u "<init>"), (0, u "()V"), (0, .class_ 8), (0, u "java/lang/Record")] 13

def k2c0 : Code := { maxStack := 1, maxLocals := 1, code := jdk_30_method_1_code, exceptionTable := #[], attributes := #[] }
def k2m0 : Method := { name := "<init>", desc := "()V", sig := { parameters := [], returnType := none }, accessFlags := 4, code := some k2c0 }
/-- java/lang/Record -/
def k2 : Class := { plain "java/lang/Record" (some 0) with
  accessFlags := 1057
  interfaces := #[]
  cf := some (fileOf pool2 7 #[] #[{ accessFlags := 4, nameIndex := 5, descriptorIndex := 6, attributes := #[] }] 1057 2 #[] #[])
  fields := #[]
  methods := #[k2m0]
  instanceTypes := #[]
  staticTypes := #[]
  resolved := Array.replicate 22 none
  statics := none }

def pool3 : Array CpInfo := pool [(1, .methodref 2 3), (0, .class_ 4), (0, .nameAndType 5 6), (0, u "java/lang/Record"), (0, u "<init>"), (0, u "()V"), (0, .fieldref 8 9), (0, .class_ 10), (0, .nameAndType 11 12), (0, u "com/example/orbyt/orbyt/IndexRange"), (0, u "first"), (0, u "J"), (0, .fieldref 8 14), (0, .nameAndType 15 12), (0, u "last"), (0, .long 18446744073709551615), (1, .methodref 8 19), (0, .nameAndType 5 20), (0, u "(JJ)V"), (0, .methodref 22 23), (0, .class_ 24), (0, .nameAndType 25 26), (0, u "java/lang/Math"), (0, u "max"), (0, u "(JJ)J"), (0, .methodref 22 28), (0, .nameAndType 29 26), (0, u "min"), (15, u "of"), (0, u "(JJJ)Lcom/example/orbyt/orbyt/IndexRange;"), (4, u "()J")] 24

def k3c0 : Code := { maxStack := 3, maxLocals := 5, code := prog_4_method_1_code, exceptionTable := #[], attributes := #[] }
def k3m0 : Method := { name := "<init>", desc := "(JJ)V", sig := { parameters := [.long, .long], returnType := none }, accessFlags := 0, code := some k3c0 }
def k3c1 : Code := { maxStack := 8, maxLocals := 10, code := prog_4_method_2_code, exceptionTable := #[], attributes := #[] }
def k3m1 : Method := { name := "of", desc := "(JJJ)Lcom/example/orbyt/orbyt/IndexRange;", sig := { parameters := [.long, .long, .long], returnType := some (.object "com/example/orbyt/orbyt/IndexRange") }, accessFlags := 8, code := some k3c1 }
def k3c2 : Code := { maxStack := 2, maxLocals := 1, code := prog_4_method_8_code, exceptionTable := #[], attributes := #[] }
def k3m2 : Method := { name := "first", desc := "()J", sig := { parameters := [], returnType := some .long }, accessFlags := 1, code := some k3c2 }
def k3c3 : Code := { maxStack := 2, maxLocals := 1, code := prog_4_method_9_code, exceptionTable := #[], attributes := #[] }
def k3m3 : Method := { name := "last", desc := "()J", sig := { parameters := [], returnType := some .long }, accessFlags := 1, code := some k3c3 }
/-- com/example/orbyt/orbyt/IndexRange -/
def k3 : Class := { plain "com/example/orbyt/orbyt/IndexRange" (some 2) with
  accessFlags := 48
  interfaces := #[]
  cf := some (fileOf pool3 8 #[] #[{ accessFlags := 0, nameIndex := 5, descriptorIndex := 20, attributes := #[] }, { accessFlags := 8, nameIndex := 45, descriptorIndex := 46, attributes := #[] }, { accessFlags := 1, nameIndex := 11, descriptorIndex := 51, attributes := #[] }, { accessFlags := 1, nameIndex := 15, descriptorIndex := 51, attributes := #[] }] 48 2 #[] #[{ accessFlags := 18, nameIndex := 11, descriptorIndex := 12, attributes := #[] }, { accessFlags := 18, nameIndex := 15, descriptorIndex := 12, attributes := #[] }])
  fields := #[{ name := "first", type := .long, accessFlags := 18, slot := 0, constantValue := 0 }, { name := "last", type := .long, accessFlags := 18, slot := 1, constantValue := 0 }]
  methods := #[k3m0, k3m1, k3m2, k3m3]
  instanceTypes := #[.long, .long]
  staticTypes := #[]
  resolved := Array.replicate 76 none
  statics := none }

def pool4 : Array CpInfo := pool [(1, .class_ 2), (0, u "java/lang/Math"), (1, .class_ 6), (1, u "java/lang/Object"), (0, u "<init>"), (0, u "()V"), (89, .class_ 100), (1, u "java/lang/Math$RandomNumberGeneratorHolder"), (20, u "(JJ)J"), (50, u "negativeZeroFloatBits"), (0, u "J"), (2, u "negativeZeroDoubleBits"), (21, u "max"), (2, u "min"), (43, u "$assertionsDisabled"), (0, u "Z"), (91, u "twoToTheDoubleScaleDown"), (0, u "D"), (4, u "twoToTheDoubleScaleUp"), (9, u "E"), (3, u "PI"), (2, u "TAU"), (2, u "DEGREES_TO_RADIANS"), (0, u "RADIANS_TO_DEGREES")] 94

def k4m0 : Method := { name := "<init>", desc := "()V", sig := { parameters := [], returnType := none }, accessFlags := 2, code := none }
def k4c1 : Code := { maxStack := 4, maxLocals := 4, code := jdk_29_method_66_code, exceptionTable := #[], attributes := #[] }
def k4m1 : Method := { name := "max", desc := "(JJ)J", sig := { parameters := [.long, .long], returnType := some .long }, accessFlags := 9, code := some k4c1 }
def k4c2 : Code := { maxStack := 4, maxLocals := 4, code := jdk_29_method_70_code, exceptionTable := #[], attributes := #[] }
def k4m2 : Method := { name := "min", desc := "(JJ)J", sig := { parameters := [.long, .long], returnType := some .long }, accessFlags := 9, code := some k4c2 }
/-- java/lang/Math -/
def k4 : Class := { plain "java/lang/Math" (some 0) with
  accessFlags := 49
  interfaces := #[]
  cf := some (fileOf pool4 1 #[.nestMembers #[98]] #[{ accessFlags := 2, nameIndex := 7, descriptorIndex := 8, attributes := #[] }, { accessFlags := 9, nameIndex := 198, descriptorIndex := 121, attributes := #[] }, { accessFlags := 9, nameIndex := 201, descriptorIndex := 121, attributes := #[] }] 49 4 #[] #[{ accessFlags := 25, nameIndex := 354, descriptorIndex := 339, attributes := #[] }, { accessFlags := 25, nameIndex := 358, descriptorIndex := 339, attributes := #[] }, { accessFlags := 25, nameIndex := 361, descriptorIndex := 339, attributes := #[] }, { accessFlags := 26, nameIndex := 364, descriptorIndex := 339, attributes := #[] }, { accessFlags := 26, nameIndex := 365, descriptorIndex := 339, attributes := #[] }, { accessFlags := 26, nameIndex := 172, descriptorIndex := 173, attributes := #[] }, { accessFlags := 26, nameIndex := 176, descriptorIndex := 173, attributes := #[] }, { accessFlags := 8, nameIndex := 344, descriptorIndex := 339, attributes := #[] }, { accessFlags := 8, nameIndex := 338, descriptorIndex := 339, attributes := #[] }, { accessFlags := 4120, nameIndex := 245, descriptorIndex := 246, attributes := #[] }])
  fields := #[{ name := "E", type := .double, accessFlags := 25, slot := 0, constantValue := 0 }, { name := "PI", type := .double, accessFlags := 25, slot := 1, constantValue := 0 }, { name := "TAU", type := .double, accessFlags := 25, slot := 2, constantValue := 0 }, { name := "DEGREES_TO_RADIANS", type := .double, accessFlags := 26, slot := 3, constantValue := 0 }, { name := "RADIANS_TO_DEGREES", type := .double, accessFlags := 26, slot := 4, constantValue := 0 }, { name := "negativeZeroFloatBits", type := .long, accessFlags := 26, slot := 5, constantValue := 0 }, { name := "negativeZeroDoubleBits", type := .long, accessFlags := 26, slot := 6, constantValue := 0 }, { name := "twoToTheDoubleScaleUp", type := .double, accessFlags := 8, slot := 7, constantValue := 0 }, { name := "twoToTheDoubleScaleDown", type := .double, accessFlags := 8, slot := 8, constantValue := 0 }, { name := "$assertionsDisabled", type := .boolean, accessFlags := 4120, slot := 9, constantValue := 0 }]
  methods := #[k4m0, k4m1, k4m2]
  instanceTypes := #[]
  staticTypes := #[.double, .double, .double, .double, .double, .long, .long, .double, .double, .boolean]
  resolved := Array.replicate 460 none
  statics := none }

def pool5 : Array CpInfo := pool [(1, u "java/lang/Cloneable"), (0, .class_ 1), (0, u "java/lang/Object"), (0, .class_ 3)] 3

/-- java/lang/Cloneable -/
def k5 : Class := { plain "java/lang/Cloneable" (some 0) with
  accessFlags := 1537
  interfaces := #[]
  cf := some (fileOf pool5 2 #[] #[] 1537 4 #[] #[])
  fields := #[]
  methods := #[]
  instanceTypes := #[]
  staticTypes := #[]
  resolved := Array.replicate 8 none
  statics := none }

def pool6 : Array CpInfo := pool [(1, u "java/io/Serializable"), (0, .class_ 1), (0, u "java/lang/Object"), (0, .class_ 3)] 3

/-- java/io/Serializable -/
def k6 : Class := { plain "java/io/Serializable" (some 0) with
  accessFlags := 1537
  interfaces := #[]
  cf := some (fileOf pool6 2 #[] #[] 1537 4 #[] #[])
  fields := #[]
  methods := #[]
  instanceTypes := #[]
  staticTypes := #[]
  resolved := Array.replicate 8 none
  statics := none }

/-- the primitive byte -/
def k7 : Class := { plain "byte" none with kind := .primitive 'B', accessFlags := 0x411 }
/-- [B -/
def k8 : Class := { plain "[B" (some 0) with kind := .array 7 .byte, interfaces := #[5, 6], accessFlags := 1041 }

/-- the primitive int -/
def k9 : Class := { plain "int" none with kind := .primitive 'I', accessFlags := 0x411 }
/-- [I -/
def k10 : Class := { plain "[I" (some 0) with kind := .array 9 .int, interfaces := #[5, 6], accessFlags := 1041 }

def heap : Heap := #[]
def classes : Array Class := #[k0, k1, k2, k3, k4, k5, k6, k7, k8, k9, k10]
def interned : List (Array UInt16 × Addr) := []
def slotsUsed : Nat := 0
def theMethod : MethodId := ⟨1, 1⟩
def args0 : Array Value := #[.long 5, .long 5, .long 5, .long 5]
def aboutOver (below : List Frame) : State where
  vm := { classes := classes, interned := interned.toArray }
  heap := heap
  slotsUsed := slotsUsed
  threads := #[{ frames := .invoking theMethod args0 :: below }]
def below0 : List Frame := [.native { method := ⟨0, 0⟩, args := #[] }]
def about1 : State := aboutOver below0
def p0 : Program := .bare "" "" ""
def e0 : Env := launch0.env 0 0 0
theorem w_frames : about1.frames = Frame.invoking theMethod args0 :: below0 := rfl
set_option maxRecDepth 65536 in
theorem w_args : argsFit about1.vm theMethod args0 = true := by decide +kernel
set_option maxRecDepth 65536 in
theorem w_heap : heapFits about1 = true := by decide +kernel
set_option maxRecDepth 65536 in
theorem w_runnable : about1.curStatus? = some .runnable := by decide +kernel
set_option maxRecDepth 65536 in
theorem w_alone : about1.alone = true := by decide +kernel
set_option maxRecDepth 65536 in
theorem w_named : about1.methodNamed? x = some theMethod := by decide +kernel
set_option maxRecDepth 65536 in
theorem w_hears : about1.hears theMethod below0 = true := by decide +kernel
set_option maxRecDepth 65536 in
theorem w_ripe : about1.ripe theMethod args0 below0 = true := by decide +kernel
theorem w_running : about1.status = .running := rfl
set_option maxRecDepth 65536 in
theorem w_room : about1.hasRoom e0.platform room_1 = true :=
  launch0.hasRoom_least _ room_1 (by decide +kernel) (by decide +kernel) (by decide +kernel) (by decide +kernel) (by decide +kernel) (by decide +kernel)
theorem allAtoms_all (ts : List Jvm.Cond) (a : Array Jvm.Value) (st : Jvm.State) : (allAtoms ts).before a st = ts.all (fun c => c.before a st) := by
  induction ts with
  | nil => rfl
  | cons c t ih =>
    show (Jvm.Cond.and c (allAtoms t)).before a st = _
    rw [Jvm.Cond.before_and, ih, List.all_cons]
def words1 : List Jvm.Cond := Jvm.Cond.code x code maxLocals ret :: tables_1
/-- a 'code' word, met by the world's own term for the bytes: nothing is compared byte by byte -/
theorem code_word {y : MethodName} {bytes : ByteArray} {mx : Nat} {rt : Option FieldType} {a : Array Value} {s : State} {m : MethodId} {meth : Method} {c : Code} (h1 : s.methodNamed? y = some m) (h2 : s.vm.method? m = some meth) (h3 : meth.code = some c) (h4 : c.code = bytes)
    (h5 : (c.maxLocals == mx && c.exceptionTable.isEmpty && decide (c.maxStack ≤ mostOperands) && decide (meth.sig.returnType = rt) && !meth.locks && decide (parseMethodDescriptor y.desc = some meth.sig)) = true) : (Jvm.Cond.code y bytes mx rt).before a s = true := by
  simp only [Bool.and_eq_true, beq_iff_eq, Bool.not_eq_true', decide_eq_true_eq] at h5
  obtain ⟨⟨⟨⟨⟨g1, g2⟩, g3⟩, g4⟩, g5⟩, g6⟩ := h5
  simp [Cond.before, Cond.holds, Cond.value, h1, h2, h3, h4, g1, g2, g3, g4, g5, g6]
def isCode : Jvm.Cond → Bool
  | .code _ _ _ _ => true
  | _ => false
theorem all_split {L : List Jvm.Cond} {P : Jvm.Cond → Bool} (h1 : L.all (fun c => isCode c || P c) = true) (h2 : ∀ c ∈ L.filter isCode, P c = true) : L.all P = true := by
  refine List.all_eq_true.mpr fun c hc => ?_
  have h := List.all_eq_true.mp h1 c hc
  rcases Bool.eq_false_or_eq_true (isCode c) with hi | hi
  · exact h2 c (List.mem_filter.mpr ⟨hc, hi⟩)
  · simpa [hi] using h
set_option maxRecDepth 65536 in
theorem w_c0 : (Jvm.Cond.code x code maxLocals ret).before args0 about1 = true := code_word (m := ⟨1, 1⟩) (meth := k1m1) (c := k1c1) (by decide +kernel) rfl rfl rfl (by decide +kernel)
set_option maxRecDepth 65536 in
theorem w_c1 : (Jvm.Cond.code ({ cls := "com/example/orbyt/orbyt/IndexRange", name := "of", desc := "(JJJ)Lcom/example/orbyt/orbyt/IndexRange;" } : Jvm.MethodName) prog_4_method_2_code (10 : Nat) (Option.some (Jvm.ClassFile.FieldType.object "com/example/orbyt/orbyt/IndexRange"))).before args0 about1 = true := code_word (m := ⟨3, 1⟩) (meth := k3m1) (c := k3c1) (by decide +kernel) rfl rfl rfl (by decide +kernel)
set_option maxRecDepth 65536 in
theorem w_c2 : (Jvm.Cond.code ({ cls := "java/lang/Math", name := "max", desc := "(JJ)J" } : Jvm.MethodName) jdk_29_method_66_code (4 : Nat) (Option.some Jvm.ClassFile.FieldType.long)).before args0 about1 = true := code_word (m := ⟨4, 1⟩) (meth := k4m1) (c := k4c1) (by decide +kernel) rfl rfl rfl (by decide +kernel)
set_option maxRecDepth 65536 in
theorem w_c3 : (Jvm.Cond.code ({ cls := "java/lang/Math", name := "min", desc := "(JJ)J" } : Jvm.MethodName) jdk_29_method_70_code (4 : Nat) (Option.some Jvm.ClassFile.FieldType.long)).before args0 about1 = true := code_word (m := ⟨4, 2⟩) (meth := k4m2) (c := k4c2) (by decide +kernel) rfl rfl rfl (by decide +kernel)
set_option maxRecDepth 65536 in
theorem w_c4 : (Jvm.Cond.code ({ cls := "com/example/orbyt/orbyt/IndexRange", name := "<init>", desc := "(JJ)V" } : Jvm.MethodName) prog_4_method_1_code (5 : Nat) (Option.none : Option Jvm.ClassFile.FieldType)).before args0 about1 = true := code_word (m := ⟨3, 0⟩) (meth := k3m0) (c := k3c0) (by decide +kernel) rfl rfl rfl (by decide +kernel)
set_option maxRecDepth 65536 in
theorem w_c5 : (Jvm.Cond.code ({ cls := "java/lang/Record", name := "<init>", desc := "()V" } : Jvm.MethodName) jdk_30_method_1_code (1 : Nat) (Option.none : Option Jvm.ClassFile.FieldType)).before args0 about1 = true := code_word (m := ⟨2, 0⟩) (meth := k2m0) (c := k2c0) (by decide +kernel) rfl rfl rfl (by decide +kernel)
set_option maxRecDepth 65536 in
theorem w_c6 : (Jvm.Cond.code ({ cls := "java/lang/Object", name := "<init>", desc := "()V" } : Jvm.MethodName) object_method_1_code (1 : Nat) (Option.none : Option Jvm.ClassFile.FieldType)).before args0 about1 = true := code_word (m := ⟨0, 0⟩) (meth := k0m0) (c := k0c0) (by decide +kernel) rfl rfl rfl (by decide +kernel)
set_option maxRecDepth 65536 in
theorem w_c7 : (Jvm.Cond.code ({ cls := "com/example/orbyt/orbyt/IndexRange", name := "first", desc := "()J" } : Jvm.MethodName) prog_4_method_8_code (1 : Nat) (Option.some Jvm.ClassFile.FieldType.long)).before args0 about1 = true := code_word (m := ⟨3, 2⟩) (meth := k3m2) (c := k3c2) (by decide +kernel) rfl rfl rfl (by decide +kernel)
set_option maxRecDepth 65536 in
theorem w_c8 : (Jvm.Cond.code ({ cls := "com/example/orbyt/orbyt/IndexRange", name := "last", desc := "()J" } : Jvm.MethodName) prog_4_method_9_code (1 : Nat) (Option.some Jvm.ClassFile.FieldType.long)).before args0 about1 = true := code_word (m := ⟨3, 3⟩) (meth := k3m3) (c := k3c3) (by decide +kernel) rfl rfl rfl (by decide +kernel)
def codes1 : List Jvm.Cond := [Jvm.Cond.code x code maxLocals ret, Jvm.Cond.code ({ cls := "com/example/orbyt/orbyt/IndexRange", name := "of", desc := "(JJJ)Lcom/example/orbyt/orbyt/IndexRange;" } : Jvm.MethodName) prog_4_method_2_code (10 : Nat) (Option.some (Jvm.ClassFile.FieldType.object "com/example/orbyt/orbyt/IndexRange")), Jvm.Cond.code ({ cls := "java/lang/Math", name := "max", desc := "(JJ)J" } : Jvm.MethodName) jdk_29_method_66_code (4 : Nat) (Option.some Jvm.ClassFile.FieldType.long), Jvm.Cond.code ({ cls := "java/lang/Math", name := "min", desc := "(JJ)J" } : Jvm.MethodName) jdk_29_method_70_code (4 : Nat) (Option.some Jvm.ClassFile.FieldType.long), Jvm.Cond.code ({ cls := "com/example/orbyt/orbyt/IndexRange", name := "<init>", desc := "(JJ)V" } : Jvm.MethodName) prog_4_method_1_code (5 : Nat) (Option.none : Option Jvm.ClassFile.FieldType), Jvm.Cond.code ({ cls := "java/lang/Record", name := "<init>", desc := "()V" } : Jvm.MethodName) jdk_30_method_1_code (1 : Nat) (Option.none : Option Jvm.ClassFile.FieldType), Jvm.Cond.code ({ cls := "java/lang/Object", name := "<init>", desc := "()V" } : Jvm.MethodName) object_method_1_code (1 : Nat) (Option.none : Option Jvm.ClassFile.FieldType), Jvm.Cond.code ({ cls := "com/example/orbyt/orbyt/IndexRange", name := "first", desc := "()J" } : Jvm.MethodName) prog_4_method_8_code (1 : Nat) (Option.some Jvm.ClassFile.FieldType.long), Jvm.Cond.code ({ cls := "com/example/orbyt/orbyt/IndexRange", name := "last", desc := "()J" } : Jvm.MethodName) prog_4_method_9_code (1 : Nat) (Option.some Jvm.ClassFile.FieldType.long)]
set_option maxRecDepth 65536 in
theorem codes_eq : words1.filter isCode = codes1 := rfl
theorem w_codes : ∀ c ∈ words1.filter isCode, c.before args0 about1 = true := by
  rw [codes_eq]
  intro c hc
  simp only [codes1, List.mem_cons, List.not_mem_nil, or_false] at hc
  rcases hc with rfl | rfl | rfl | rfl | rfl | rfl | rfl | rfl | rfl
  · exact w_c0
  · exact w_c1
  · exact w_c2
  · exact w_c3
  · exact w_c4
  · exact w_c5
  · exact w_c6
  · exact w_c7
  · exact w_c8
set_option maxRecDepth 65536 in
theorem w_t1 : (words1.take 24).all (fun c => isCode c || c.before args0 about1) = true := by decide +kernel
set_option maxRecDepth 65536 in
theorem w_t2 : (words1.drop 24).all (fun c => isCode c || c.before args0 about1) = true := by decide +kernel
theorem w_tables : (allAtoms (Jvm.Cond.code x code maxLocals ret :: tables_1)).before args0 about1 = true := by
  rw [allAtoms_all]
  show words1.all (fun c => c.before args0 about1) = true
  refine all_split ?_ w_codes
  rw [← List.take_append_drop 24 words1, List.all_append, w_t1, w_t2]
  rfl
set_option maxRecDepth 65536 in
theorem w_case : (Jvm.Cond.and given_1 narrow_1).before args0 about1 = true := by decide +kernel
theorem w_applies : (headSpec (Jvm.Cond.code x code maxLocals ret :: tables_1) room_1).applies x e0.platform about1 = true :=
  (Spec.applies_iff w_frames).mpr ⟨w_running, w_runnable, w_alone, w_named, w_hears, w_ripe, w_room, w_tables⟩
theorem atStart : AtStart classFile x code maxLocals ret World_1 tables_1 room_1 Calls_1 rest_1 Pre_1 launch0 p0 e0 about1 theMethod args0 below0 :=
  ⟨lists_1, trivial, launch0.admits_env _ _ _, launch0.least_env, fairChoices_fair.cas, fairChoices_fair.clock, w_frames, w_args, w_heap, w_applies, trivial, trivial, w_case⟩
end start1
theorem witness_1 : WitnessClaimed_1 := ⟨start1.p0, start1.e0, start1.about1, start1.theMethod, start1.args0, start1.below0, start1.atStart⟩
end Jvm.Pilot.@@N@@
