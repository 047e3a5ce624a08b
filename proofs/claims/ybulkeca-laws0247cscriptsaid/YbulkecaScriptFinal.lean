import Derived.Test.YbulkecaScriptProof
import Derived.Test.YbulkecaPushGrow
namespace Go.Proofs.Ybulkeca

theorem script_proved : Rows.LawS0247CScriptSaid := script_over (fun w Q size maxC head hr tail tr res lim C base L k c y sq tk x => push_grow w Q size maxC head hr tail tr res lim C base L k c y sq tk x)
#print axioms script_proved
end Go.Proofs.Ybulkeca
