/- fmt's TEXT AT THIS ROAD, AND THE ROW's STEP. -/
import Derived.Test.Qxb6614548aFmtWalk
import Derived.ProofKit
import Derived.OpenShut
import Derived.ShutString
import Derived.Stop.JoinedAt
import Derived.Stop.Texts
import Derived.Stop.JoinedTold
import Derived.Stop.FmtQuoteTie
import Derived.Stop.FmtTextKit
import Derived.Stop.FmtTextVerbs
import Derived.SizedLaws
namespace Go.Proofs.Qxb6614548aFmt
open Go.ChangeShapes Go.WideShapes Go.ChangeAt Go.RowKit Go.Kit
open Go.ChangeMaps (open_string shut_string)
open Go.Extern.Stop Go.Stop Go.Extern
set_option linter.unusedVariables false

theorem Tryf.own : ownKnob Tryf.prog.godebug = none := by kernel_rfl

/-- ', with ', the number, ' more of the wrong shape under ', the key. -/
def tText (n : Int) (key : List UInt8) : List UInt8 := [44, 32, 119, 105, 116, 104, 32] ++ Lib.itoa n ++ [32, 109, 111, 114, 101, 32, 111, 102, 32, 116, 104, 101, 32, 119, 114, 111, 110, 103, 32, 115, 104, 97, 112, 101, 32, 117, 110, 100, 101, 114, 32] ++ key

theorem t_parse : (FmtText.parse [44, 32, 119, 105, 116, 104, 32, 37, 100, 32, 109, 111, 114, 101, 32, 111, 102, 32, 116, 104, 101, 32, 119, 114, 111, 110, 103, 32, 115, 104, 97, 112, 101, 32, 117, 110, 100, 101, 114, 32, 37, 115]).map FmtText.glue =
    some [.lit [44, 32, 119, 105, 116, 104, 32], .verb {} 100, .lit [32, 109, 111, 114, 101, 32, 111, 102, 32, 116, 104, 101, 32, 119, 114, 111, 110, 103, 32, 115, 104, 97, 112, 101, 32, 117, 110, 100, 101, 114, 32], .verb {} 115] := by rfl

theorem t_text (n : Int) (key : List UInt8) (hs : key.length < 2 ^ 64) (hw : (Lit.int .i64 n).wf = true) : FmtText.text "fmt.Sprintf" (fReading n key) = some (tText n key) := by
  have hi := FmtText.operand_int_at (sh := Tryf.shape3) (k := .i64) rfl rfl n hw
  have hn := FmtText.operand_str_at (sh := Tryf.shape9) rfl rfl key hs
  rw [fReading, FmtText.text_sprintf_glued t_parse (FmtText.operands_cons hi (FmtText.operands_cons hn FmtText.operands_nil))]
  simp [FmtText.render, FmtText.printArg_d _ _ hw, FmtText.printArg_s_str, tText]

set_option maxRecDepth 100000 in
theorem t_lifted (os : Os) (started : os.Started) (H : Type) (enc : TypeId × Value → H) :
    ReturnsInTold none {} Tryf.checked os 3 .any Input.okWide ((OpenSpec.ofChange Rows.fnSkippedHearsKeyAndCountOnlyPastOneSpec).preRow enc Tryf.prog Tryf.f3 [] false []) (fun F => ((OpenSpec.ofChange Rows.fnSkippedHearsKeyAndCountOnlyPastOneSpec).at F).post enc Tryf.prog Tryf.f3 false true false false) (aloneAtReturn Tryf.prog) nothingAlways := by
  refine returnsInTold_of_row (C := Tryf.checked) (s := OpenSpec.ofChange Rows.fnSkippedHearsKeyAndCountOnlyPastOneSpec) (by kernel_rfl) Tryf.own started (by kernel_rfl) Tryf.func3
    (OpenSpec.witness_stopped (enc := enc) (C := Tryf.checked) false ⟨#[], #[.string ⟨#[]⟩, .int .i64 1, .string ⟨#[]⟩, .string ⟨#[]⟩], []⟩ 8 (by kernel_rfl) (by kernel_rfl) (by kernel_rfl) (by kernel_rfl)) ?_
  intro F W base args ds gs before _ hF hval0 hW _ _ hsz _ _
  have hval : ∀ (j : Nat) t v, Tryf.f3.params[j]? = some t → args[j]? = some v → Value.okWide Tryf.prog W .any base t v := hval0
  have hW' := hW
  obtain ⟨p, q, hA0, hV, rfl, hfz, hnd⟩ := hW
  have hA : DataW.TrodAll enc Tryf.prog W 0 (fun _ => true) true Tryf.f3.params.toList args.toList ds p := hA0
  rw [Tryf.params3] at hA hval
  obtain ⟨v0, vs0, d0, ds0, p0, q0, hargs, rfl, rfl, h0, r0⟩ := trodAll_cons hA
  obtain ⟨v1, vs1, d1, ds1, p1, q1, rfl, rfl, rfl, h1, r1⟩ := trodAll_cons r0
  obtain ⟨v2, vs2, d2, ds2, p2, q2, rfl, rfl, rfl, h2, r2⟩ := trodAll_cons r1
  obtain ⟨v3, vs3, d3, ds3, p3, q3, rfl, rfl, rfl, h3, r3⟩ := trodAll_cons r2
  obtain ⟨rfl, rfl, rfl⟩ := trodAll_nil r3
  obtain rfl : args = #[v0, v1, v2, v3] := by cases args; simp_all
  obtain ⟨rfl, rfl⟩ := trodVars_none hV
  obtain ⟨key, rfl, rfl, rfl, wkey⟩ := open_string Tryf.underlying9 (hval 0 9 v0 rfl rfl) h0
  obtain ⟨n, rfl, rfl, rfl, wn⟩ := open_int Tryf.underlying3 (hval 1 3 v1 rfl rfl) h1
  obtain ⟨other, rfl, rfl, rfl, wother⟩ := open_string Tryf.underlying9 (hval 2 9 v2 rfl rfl) h2
  obtain ⟨m, rfl, rfl, rfl, wm⟩ := open_string Tryf.underlying9 (hval 3 9 v3 rfl rfl) h3
  clear hA0 hval0
  have hwalk : Calls Tryf.prog 3 #[.string key, .int .i64 n, .string other, .string m] W (MPost W) := by
    by_cases hn : n ≤ 1
    · exact main_low key other m n W wkey wother wm hn
    · obtain ⟨b1, b2⟩ : -9223372036854775808 ≤ n ∧ n ≤ 9223372036854775807 := bounds_i64 wn
      have wn' : (Lit.int .i64 (n - 1)).wf = true := WalkArith.wf_i64 ⟨by omega, by omega⟩
      have hlen : key.data.toList.length ≤ reachBytes := sized_string hsz (j := 0) (t := 9) rfl rfl
      have hr47 := reachBytes_lt
      have l1 := FmtText.itoa_length_le wn'
      have ht := told_string F (t_text (n - 1) key.data.toList (by omega) wn') (by simp only [tText, List.length_append, List.length_cons, List.length_nil]; omega)
      have hT : (FmtStop.textOf (F.told "fmt.Sprintf" (fReading (n - 1) key.data.toList) 0)).data.toList = tText (n - 1) key.data.toList := by rw [textOf_list, ht]
      have hS : (FmtStop.textOf (F.told "fmt.Sprintf" (fReading (n - 1) key.data.toList) 0)).size = (tText (n - 1) key.data.toList).length := by
        rw [← hT]; rfl
      refine main_high F.told key other m _ n W hF wkey wother wm (by omega) b2 rfl (fun hk => ?_)
      rw [hS]
      have e : key.data.toList.length = key.size := rfl
      simp only [tText, List.length_append, List.length_cons, List.length_nil]
      omega
  refine hwalk.mono fun e W' ⟨he, bel⟩ => ?_
  subst he
  exact ⟨_, rfl, _, _, _, [], _, [], hW', trodAll_mk1 (shut_bool Tryf.underlying4 _), (trodAll_cons_mk (shut_string Tryf.underlying9 wkey) (trodAll_cons_mk (shut_int Tryf.underlying3 wn) (trodAll_cons_mk (shut_string Tryf.underlying9 wother) (trodAll_cons_mk (shut_string Tryf.underlying9 wm) trodAll_mk0)))), rfl, bel.frame _, fun h => by cases h⟩
end Go.Proofs.Qxb6614548aFmt
