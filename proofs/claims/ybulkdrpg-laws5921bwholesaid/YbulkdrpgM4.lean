import Derived.Test.YbulkdrpgM3
namespace Go.Proofs.Ybulkdrpg
open Go.RowKit Go.Maps Go.WideMaps Go.WideElems
variable {w w' : World} {C : Nat} {mb : Option Nat} {DM : DataW Nat} {rs : List Rc}

theorem wpList_delL {ops : Array Oper} {rest : List Oper} {dd : Option Tmp} {tt : TypeId} {pos : String} {af : Array Edge} {a : Act} {Q : Exit → Act → World → Prop} (m x : Operand) (b n : Nat) (D : DataW Unit) (key : ByteArray)
    (hm : a.eval m = .map (some b)) (hx : a.eval x = .string key) (hown : OL w b n D) (hk : key.size ≤ maxLen)
    (h : ∀ w', OL w' b n (D.del (kS key)) → w.mapTurned w' b → wpList Yba.prog ops Q rest (a.put dd (.tuple #[])) w') :
    wpList Yba.prog ops Q (⟨dd, .call { callee := .builtin .delete, args := #[m, x], argTypes := #[76, 9] }, tt, pos, af, none⟩ :: rest) a w :=
  wpList_delete_own w rfl m x 76 9 rfl 88 law9 Yba.underlying76 _ b n D hm hown _ (kS key) hx (key9 hk) h
theorem wpList_lenL {ops : Array Oper} {rest : List Oper} {dd : Option Tmp} {tt : TypeId} {pos : String} {af : Array Edge} {a : Act} {Q : Exit → Act → World → Prop} (m : Operand) (b n : Nat) (D : DataW Unit)
    (hm : a.eval m = .map (some b)) (hown : OL w b n D) (h : wpList Yba.prog ops Q rest (a.put dd (.int .i64 (Maps.size D))) w) :
    wpList Yba.prog ops Q (⟨dd, .call { callee := .builtin .len, args := #[m], argTypes := #[76] }, tt, pos, af, none⟩ :: rest) a w :=
  wpList_len_own w rfl m 76 rfl 9 88 Yba.underlying76 _ b n D hm hown h

theorem Bk.turned {b L : Nat} {cs : Array Value} {t : TypeId} (h : Bk w b cs t) (hne : b ≠ L) (ht : w.mapTurned w' L) : Bk w' b cs t :=
  (ht.grown.block b h.lt (fun e => hne (Option.some.inj e))).trans h

theorem Ls.turned {L : Nat} {m : Value} {es : List (Nat × Value)} (h : Ls w C m es) (hne : ¬ inL C es L) (ht : w.mapTurned w' L) : Ls w' C m es :=
  h.same (fun k hk => ht.grown.block k (h.lt k hk) (fun e => hne (Option.some.inj e ▸ hk)))
theorem own_turned {H : Type} {P : Program} {k : TypeId} {R : Value → Option (DataW H × List MemPlace)} {b n L : Nat} {D : DataW H} (h : w.ownsMap P k R b n D) (hne : b ≠ L) (ht : w.mapTurned w' L) : w'.ownsMap P k R b n D :=
  own_same h (ht.grown.block b h.lt (fun e => hne (Option.some.inj e)))

/-- remove, where the client is not known. -/
theorem cs_rm_unknown (c : Int) (name : ByteArray) (h : Cs w C mb DM rs) (hno : ∀ r ∈ rs, r.id ≠ c) (hwf : (Lit.int .u64 c).wf = true) :
    Calls Yba.prog 5 #[.pointer (some ⟨C, 0, none⟩), .int .u64 c, .string name] w fun e w' => e = .returned (.tuple #[]) ∧ w' = w := by
  have c0 := h.cellC
  have hl : (Instr.lookup 24 (.map mb) (.int .u64 c) false).run Yba.prog w = .ok np w := by
    cases hm : mb with
    | none => exact look_nil hwf
    | some b => exact look_unknown (h.by1 b hm).own hwf ((h.by1 b hm).no c hno).1
  go_enter Yba.func5, Yba.ntmps5
  go_wp2_with fail
  exact bodyPost_ret (results_none Yba.results5 _ _ _) rfl ⟨rfl, rfl⟩

set_option maxRecDepth 100000 in
/-- remove, where the client keeps a lock: raw. -/
theorem rm_keep_raw (b R L n nl : Nat) (D : DataW Unit) (c : Int) (name : ByteArray) (cl : Array Value) (w : World) (h0 : w.cell? ⟨C, 0, none⟩ = some (.map (some b))) (hB : OB w b n DM) (hw : (Lit.int .u64 c).wf = true)
    (ha : DM.atKey (kI c) .nil = .held R) (hR : Bk w R cl 78) (hRL : R ≠ L) (hcl : cl[4]? = some (.map (some L))) (hL : OL w L nl D) (hk : name.size ≤ maxLen) (hz : ((Maps.size (D.del (kS name)) : Int) == 0) = false) :
    Calls Yba.prog 5 #[.pointer (some ⟨C, 0, none⟩), .int .u64 c, .string name] w fun e w' => e = .returned (.tuple #[]) ∧ OL w' L nl (D.del (kS name)) ∧ w.grownBy w' (some L) := by
  have hlk := look_known hB hw ha
  have c4 : w.cell? ⟨R, 4, none⟩ = some (.map (some L)) := by rw [hR.cell, hcl]
  go_enter Yba.func5, Yba.ntmps5
  go_wp2_with (first
    | ((with_reducible refine wpList_delL (.tmp 18) (.tmp 19) L nl D name ?_ ?_ hL hk ?_); simp [Act.eval]; simp [Act.eval]; intro w1 hL1 ht1; have hR1 := hR.turned hRL ht1; have c41 : w1.cell? ⟨R, 4, none⟩ = some (.map (some L)) := by (rw [hR1.cell, hcl]))
    | ((with_reducible refine wpList_lenL (.tmp 23) L nl (D.del (kS name)) ?_ hL1 ?_); simp [Act.eval]))
  go_end0
  exact ⟨rfl, hL1, ht1.grown⟩

set_option maxRecDepth 100000 in
/-- remove, where the client loses its last lock: raw. -/
theorem rm_drop_raw (b R L n nl j : Nat) (es : List (Nat × Value)) (D : DataW Unit) (c : Int) (name : ByteArray) (cl : Array Value) (w : World) (hLs : Ls w C (.map (some b)) es) (hj : j < es.length) (hB : OB w b n DM) (hw : (Lit.int .u64 c).wf = true)
    (ha : DM.atKey (kI c) .nil = .held R) (hR : Bk w R cl 78) (hRL : R ≠ L) (hRE : ¬ inL C es R) (hLE : ¬ inL C es L) (hbE : ¬ inL C es b) (hLb : L ≠ b)
    (hc0 : cl[0]? = some (.int .u64 c)) (hcl : cl[4]? = some (.map (some L))) (hc6 : cl[6]? = some (pt es[j].1)) (hL : OL w L nl D) (hk : name.size ≤ maxLen) (hz : ((Maps.size (D.del (kS name)) : Int) == 0) = true) :
    Calls Yba.prog 5 #[.pointer (some ⟨C, 0, none⟩), .int .u64 c, .string name] w fun e w' => e = .returned (.tuple #[]) ∧ Ls w' C (.map (some b)) (es.eraseIdx j) ∧ OB w' b n (DM.del (kI c)) ∧ Only (fun k => inL C es k ∨ k = b ∨ k = L) w w' := by
  have hlk := look_known hB hw ha
  have h0 := hLs.cell0.1
  have c4 : w.cell? ⟨R, 4, none⟩ = some (.map (some L)) := by rw [hR.cell, hcl]
  go_enter Yba.func5, Yba.ntmps5
  go_wp2_with (first
    | ((with_reducible refine wpList_delL (.tmp 18) (.tmp 19) L nl D name ?_ ?_ hL hk ?_); simp [Act.eval]; simp [Act.eval]; intro w1 hL1 ht1; have hR1 := hR.turned hRL ht1; have c41 : w1.cell? ⟨R, 4, none⟩ = some (.map (some L)) := by (rw [hR1.cell, hcl]))
    | ((with_reducible refine wpList_lenL (.tmp 23) L nl (D.del (kS name)) ?_ hL1 ?_); simp [Act.eval])
    | (go_at_call 11; refine (drop_raw b n j es cl R c (hLs.turned hLE ht1) hj (own_turned hB hLb.symm ht1) hbE hR1 hRE hc0 hc6 hw).mono ?_; rintro e w2 ⟨rfl, g1, g2, g3, g4⟩))
  go_end0
  refine ⟨rfl, g1, g2, ?_⟩
  exact (only_grown ht1.grown (Or.inr (Or.inr rfl))).trans (g3.mono (fun k _ s => s.elim Or.inl (fun e => Or.inr (Or.inl e))))
end Go.Proofs.Ybulkdrpg
